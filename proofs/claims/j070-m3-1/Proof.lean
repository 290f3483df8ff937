import JvmDerived
import JvmDerived.Pilot.@@N@@Statement
import JvmDerived.Pilot.@@N@@Code
set_option linter.unusedVariables false
set_option linter.unusedSimpArgs false

namespace Jvm.Pilot.@@N@@
open Jvm Jvm.ClassFile Sem Op Lib Jvm.Free Jvm.Stand Jvm.LawKit Jvm.RoadKit Bundle Jvm.Pilot.@@N@@.Jvm.D


section OwnKit
variable {p : Program} {l : Launch} {e : Env} {R : Room} {s : State} {m : MethodId} {args : Array Value} {below : List Frame} {meth : Method} {c : Code} {T : State} {locs : List Loc} {cells slots : Nat} {h : Heap} {Q : Option Value → Heap → List Loc → Prop} {C S : Nat}
/-- from the state t the run comes to its end, and what it leaves answers Q -/
def own_Gl (p : Program) (e : Env) (below : List Frame) (s : State) (Q : Option Value → Heap → List Loc → Prop) (C S : Nat) (t : State) : Prop :=
  ∃ s₂ o, Steps p.tables e below t s₂ ∧ s₂.status = .running ∧ Ended s₂ below o ∧ ∃ v L, o = .returned v ∧ Q v s₂.heap L ∧ FrameEnd s o s₂ L C S
theorem own_st {t t' : State} (k : ∀ target, Steps p.tables e below t' target → Steps p.tables e below t target) (d : own_Gl p e below s Q C S t') : own_Gl p e below s Q C S t := by
  obtain ⟨s₂, o, h1, h2⟩ := d
  exact ⟨s₂, o, k _ h1, h2⟩
theorem own_tr {t t' : State} (k : Steps p.tables e below t t') (d : own_Gl p e below s Q C S t') : own_Gl p e below s Q C S t := own_st (fun _ h => k.trans h) d
theorem own_cast {g g' : JFrame} (q : g = g') (d : own_Gl p e below s Q C S (T.setTop g')) : own_Gl p e below s Q C S (T.setTop g) := q ▸ d
theorem own_ret (X : Stand p l e R s m args below meth c T locs cells slots) (hlk : meth.locks = false) {v : Option Value} {t : State} (hv : meth.sig.returnType = none → v = none) (eT : T.heap = h) (hq : Q v h locs) (hc : cells ≤ C) (hs : slots ≤ S)
    (k : ∀ fs, (∀ (f : JFrame) (acts : List Action), f.method = m → f.locked = none → f.entered = [] → (doReturn e (T.setTop f) acts v).1 = T.setFrames fs) → Steps p.tables e below t (T.setFrames fs)) : own_Gl p e below s Q C S t := by
  obtain ⟨fs, hr, hrun, hended, hW, hsame⟩ := X.leave hv hlk
  exact ⟨_, _, k fs hr, hrun, hended, v, locs, rfl, by show Q v T.heap locs; rw [eT]; exact hq, ⟨_, rfl⟩, hW, hsame.mono hc hs⟩
theorem own_retI (X : Stand p l e R s m args below meth c T locs cells slots) (hx : p.tables.exec = Jvm.exec) (hlk : meth.locks = false) {pc : Nat} {Ls : Array Slot} {z : Int32} {rest : List Value} (hret : meth.sig.returnType = some .int) (hd : decode c.code pc = .ok (.ireturn, 1)) (eT : T.heap = h) (hq : Q (some (.int z)) h locs) (hc : cells ≤ C) (hs : slots ≤ S) :
    own_Gl p e below s Q C S (T.setTop (mkF m pc Ls (.int z :: rest))) :=
  own_ret X hlk (fun q => by rw [hret] at q; cases q) eT hq hc hs (fun _ hr => retOut X hx hret rfl (Or.inl ⟨rfl, Or.inl rfl, _, rfl⟩) hd hr)
theorem own_retN (X : Stand p l e R s m args below meth c T locs cells slots) (hx : p.tables.exec = Jvm.exec) (hlk : meth.locks = false) {pc : Nat} {Ls : Array Slot} {z : Int32} {t : FieldType} {rest : List Value} (hret : meth.sig.returnType = some t) (ht : t = .boolean ∨ t = .byte ∨ t = .char ∨ t = .short) (hd : decode c.code pc = .ok (.ireturn, 1)) (eT : T.heap = h) (hq : Q (some (.int (nar t z))) h locs) (hc : cells ≤ C) (hs : slots ≤ S) :
    own_Gl p e below s Q C S (T.setTop (mkF m pc Ls (.int z :: rest))) :=
  own_ret X hlk (fun q => by rw [hret] at q; cases q) eT hq hc hs (fun _ hr => retN X hx hret ht hd hr)
theorem own_retJ (X : Stand p l e R s m args below meth c T locs cells slots) (hx : p.tables.exec = Jvm.exec) (hlk : meth.locks = false) {pc : Nat} {Ls : Array Slot} {z : Int64} {rest : List Value} (hret : meth.sig.returnType = some .long) (hd : decode c.code pc = .ok (.lreturn, 1)) (eT : T.heap = h) (hq : Q (some (.long z)) h locs) (hc : cells ≤ C) (hs : slots ≤ S) :
    own_Gl p e below s Q C S (T.setTop (mkF m pc Ls (.long z :: rest))) :=
  own_ret X hlk (fun q => by rw [hret] at q; cases q) eT hq hc hs (fun _ hr => retOut X hx hret rfl (Or.inr (Or.inl ⟨rfl, rfl, _, rfl⟩)) hd hr)
theorem own_retA (X : Stand p l e R s m args below meth c T locs cells slots) (hx : p.tables.exec = Jvm.exec) (hlk : meth.locks = false) {pc : Nat} {Ls : Array Slot} {w : Value} {t : FieldType} {rest : List Value} (hret : meth.sig.returnType = some t) (ht : t.isReference = true) (hw : w.isRef = true) (hn : narrow t w = w) (hd : decode c.code pc = .ok (.areturn, 1)) (eT : T.heap = h) (hq : Q (some w) h locs) (hc : cells ≤ C) (hs : slots ≤ S) :
    own_Gl p e below s Q C S (T.setTop (mkF m pc Ls (w :: rest))) :=
  own_ret X hlk (fun q => by rw [hret] at q; cases q) eT hq hc hs (fun _ hr => retOut X hx hret hn (Or.inr (Or.inr (Or.inr (Or.inr ⟨rfl, ht, hw⟩)))) hd hr)
theorem own_retV (X : Stand p l e R s m args below meth c T locs cells slots) (hx : p.tables.exec = Jvm.exec) (hlk : meth.locks = false) {pc : Nat} {Ls : Array Slot} (hret : meth.sig.returnType = none) (hd : decode c.code pc = .ok (.return_, 1)) (eT : T.heap = h) (hq : Q none h locs) (hc : cells ≤ C) (hs : slots ≤ S) :
    own_Gl p e below s Q C S (T.setTop (mkF m pc Ls [])) :=
  own_ret X hlk (fun _ => rfl) eT hq hc hs (fun _ hr => X.returnOut hx hret hd hr)
end OwnKit


theorem own_nb (y : Int32) : nar .byte (y.toInt8.toInt32) = y.toInt8.toInt32 := by simp [nar]
theorem own_sh0 (x : Int32) : ((x.toUInt32 >>> (0 : UInt32)).toInt32) = x := by simp
theorem own_mod5 (x : Int32) : ((x &&& (2147483647 : Int32)) % (5 : Int32)) = (0 : Int32) ∨ ((x &&& (2147483647 : Int32)) % (5 : Int32)) = (1 : Int32) ∨ ((x &&& (2147483647 : Int32)) % (5 : Int32)) = (2 : Int32) ∨ ((x &&& (2147483647 : Int32)) % (5 : Int32)) = (3 : Int32) ∨ ((x &&& (2147483647 : Int32)) % (5 : Int32)) = (4 : Int32) := by
  have h := c_mask x (2147483647 : Int32) 31 (by decide) (by decide)
  have e5 : (5 : Int32).toInt = 5 := by decide
  have h2 := (c_irem (x &&& (2147483647 : Int32)) (5 : Int32) 5 e5).1 (by omega)
  have e0 : (0 : Int32).toInt = 0 := by decide
  have e1 : (1 : Int32).toInt = 1 := by decide
  have e2 : (2 : Int32).toInt = 2 := by decide
  have e3 : (3 : Int32).toInt = 3 := by decide
  have e4 : (4 : Int32).toInt = 4 := by decide
  simp only [← Int32.toInt_inj, e0, e1, e2, e3, e4]
  omega

theorem own_w0 (p2 : Int32) : Value.int (nar .byte (p2.toInt8.toInt32)) = Value.int (((p2.toUInt32 >>> (((8 : Int32) * (0 : Int32)) &&& 31).toUInt32).toInt32).toInt8.toInt32) := by
  rw [own_nb, show (((8 : Int32) * (0 : Int32)) &&& 31).toUInt32 = 0 from by decide, own_sh0]
theorem own_w1 (p2 : Int32) : Value.int (nar .byte (((p2.toUInt32 >>> ((8 : Int32) &&& 31).toUInt32).toInt32).toInt8.toInt32)) = Value.int (((p2.toUInt32 >>> (((8 : Int32) * (1 : Int32)) &&& 31).toUInt32).toInt32).toInt8.toInt32) := by
  rw [own_nb, show (((8 : Int32) * (1 : Int32)) &&& 31).toUInt32 = (((8 : Int32) : Int32) &&& 31).toUInt32 from by decide]
theorem own_w2 (p2 : Int32) : Value.int (nar .byte (((p2.toUInt32 >>> ((16 : Int32) &&& 31).toUInt32).toInt32).toInt8.toInt32)) = Value.int (((p2.toUInt32 >>> (((8 : Int32) * (2 : Int32)) &&& 31).toUInt32).toInt32).toInt8.toInt32) := by
  rw [own_nb, show (((8 : Int32) * (2 : Int32)) &&& 31).toUInt32 = (((16 : Int32) : Int32) &&& 31).toUInt32 from by decide]
theorem own_w3 (p2 : Int32) : Value.int (nar .byte (((p2.toUInt32 >>> ((24 : Int32) &&& 31).toUInt32).toInt32).toInt8.toInt32)) = Value.int (((p2.toUInt32 >>> (((8 : Int32) * (3 : Int32)) &&& 31).toUInt32).toInt32).toInt8.toInt32) := by
  rw [own_nb, show (((8 : Int32) * (3 : Int32)) &&& 31).toUInt32 = (((24 : Int32) : Int32) &&& 31).toUInt32 from by decide]
theorem own_d_prog_78_method_2_code_0 : decode prog_78_method_2_code 0 = .ok (.aload_n 0, 1) := by decide +kernel
theorem own_d_prog_78_method_2_code_1 : decode prog_78_method_2_code 1 = .ok (.arraylength, 1) := by decide +kernel
theorem own_d_prog_78_method_2_code_2 : decode prog_78_method_2_code 2 = .ok (.iconst 3, 1) := by decide +kernel
theorem own_d_prog_78_method_2_code_3 : decode prog_78_method_2_code 3 = .ok (.iadd, 1) := by decide +kernel
theorem own_d_prog_78_method_2_code_4 : decode prog_78_method_2_code 4 = .ok (.newarray .byte, 2) := by decide +kernel
theorem own_d_prog_78_method_2_code_6 : decode prog_78_method_2_code 6 = .ok (.astore_n 1, 1) := by decide +kernel
theorem own_d_prog_78_method_2_code_7 : decode prog_78_method_2_code 7 = .ok (.aload_n 1, 1) := by decide +kernel
theorem own_d_prog_78_method_2_code_8 : decode prog_78_method_2_code 8 = .ok (.iconst 0, 1) := by decide +kernel
theorem own_d_prog_78_method_2_code_9 : decode prog_78_method_2_code 9 = .ok (.bipush 11, 2) := by decide +kernel
theorem own_d_prog_78_method_2_code_11 : decode prog_78_method_2_code 11 = .ok (.bastore, 1) := by decide +kernel
theorem own_d_prog_78_method_2_code_12 : decode prog_78_method_2_code 12 = .ok (.aload_n 0, 1) := by decide +kernel
theorem own_d_prog_78_method_2_code_13 : decode prog_78_method_2_code 13 = .ok (.iconst 0, 1) := by decide +kernel
theorem own_d_prog_78_method_2_code_14 : decode prog_78_method_2_code 14 = .ok (.aload_n 1, 1) := by decide +kernel
theorem own_d_prog_78_method_2_code_15 : decode prog_78_method_2_code 15 = .ok (.iconst 1, 1) := by decide +kernel
theorem own_d_prog_78_method_2_code_16 : decode prog_78_method_2_code 16 = .ok (.aload_n 0, 1) := by decide +kernel
theorem own_d_prog_78_method_2_code_17 : decode prog_78_method_2_code 17 = .ok (.arraylength, 1) := by decide +kernel
theorem own_d_prog_78_method_2_code_18 : decode prog_78_method_2_code 18 = .ok (.invokestatic 9, 3) := by decide +kernel
theorem own_d_prog_78_method_2_code_21 : decode prog_78_method_2_code 21 = .ok (.aload_n 1, 1) := by decide +kernel
theorem own_d_prog_78_method_2_code_22 : decode prog_78_method_2_code 22 = .ok (.aload_n 0, 1) := by decide +kernel
theorem own_d_prog_78_method_2_code_23 : decode prog_78_method_2_code 23 = .ok (.arraylength, 1) := by decide +kernel
theorem own_d_prog_78_method_2_code_24 : decode prog_78_method_2_code 24 = .ok (.iconst 1, 1) := by decide +kernel
theorem own_d_prog_78_method_2_code_25 : decode prog_78_method_2_code 25 = .ok (.iadd, 1) := by decide +kernel
theorem own_d_prog_78_method_2_code_26 : decode prog_78_method_2_code 26 = .ok (.bipush 28, 2) := by decide +kernel
theorem own_d_prog_78_method_2_code_28 : decode prog_78_method_2_code 28 = .ok (.bastore, 1) := by decide +kernel
theorem own_d_prog_78_method_2_code_29 : decode prog_78_method_2_code 29 = .ok (.aload_n 1, 1) := by decide +kernel
theorem own_d_prog_78_method_2_code_30 : decode prog_78_method_2_code 30 = .ok (.aload_n 0, 1) := by decide +kernel
theorem own_d_prog_78_method_2_code_31 : decode prog_78_method_2_code 31 = .ok (.arraylength, 1) := by decide +kernel
theorem own_d_prog_78_method_2_code_32 : decode prog_78_method_2_code 32 = .ok (.iconst 2, 1) := by decide +kernel
theorem own_d_prog_78_method_2_code_33 : decode prog_78_method_2_code 33 = .ok (.iadd, 1) := by decide +kernel
theorem own_d_prog_78_method_2_code_34 : decode prog_78_method_2_code 34 = .ok (.bipush 13, 2) := by decide +kernel
theorem own_d_prog_78_method_2_code_36 : decode prog_78_method_2_code 36 = .ok (.bastore, 1) := by decide +kernel
theorem own_d_prog_78_method_2_code_37 : decode prog_78_method_2_code 37 = .ok (.aload_n 1, 1) := by decide +kernel
theorem own_d_prog_78_method_2_code_38 : decode prog_78_method_2_code 38 = .ok (.areturn, 1) := by decide +kernel
theorem own_ef_own_frame0 (m : MethodId) (x0 : Addr) : entryFrame m #[(.ref x0)] 2 = mkF m 0 #[.val (.ref x0), .unset] [] := by first | (simp [entryFrame, mkF, argsToLocals, Value.category]; done) | rfl
def own_Q_own_frame0 (Z : State) (a : Addr) (k : ClassId) (h0 : Heap) (n0 : Nat) (v : Option Value) (h : Heap) (L : List Loc) : Prop := ∃ (r : Addr) (kr : ClassId), (v = some (.ref r)) ∧ (Fr n0 L) ∧ (Keep h0 h []) ∧ (n0 ≤ r) ∧ (h0.size ≤ r) ∧ (Arv Z h r kr .byte (3 : Int32) [(.int (nar .byte (11 : Int32))), (.int (nar .byte (28 : Int32))), (.int (nar .byte (13 : Int32)))] (.int (0 : Int32)))
theorem own_pn792730792 : plainName "com/example/assayline/assayline/protocol/Mllp" = true := by first | (simp [plainName, overriddenIn]; done) | decide +kernel
set_option maxRecDepth 65536 in
set_option maxHeartbeats 40000000 in
theorem own_frame0 (l : Launch) (Z : State) (a0 : Array Value) (hw : ∀ d ∈ tables_1, d.before a0 Z = true) (ws : List Jvm.Cond) (a : Addr) (k : ClassId) (h0 : Heap) (n0 : Nat) (Z0 : n0 ≤ h0.size) (V_a : Arv Z h0 a k .byte (0 : Int32) [] (.int (0 : Int32))) :
    MetFree l (⟨"com/example/assayline/assayline/protocol/Mllp", "frame", "([B)[B"⟩ : MethodName) (head1 (Jvm.Cond.code (⟨"com/example/assayline/assayline/protocol/Mllp", "frame", "([B)[B"⟩ : MethodName) prog_78_method_2_code 2 (some (.array .byte)) :: ws) ({ frames := 1, cells := 1, slots := 3, locals := 18 } : Room)) (fun xa xU => xa = #[(.ref a)] ∧ Z.Warmed39 xU.vm ∧ xU.heap = h0) (fun _ _ _ _ _ => True) (fun _ xU xo xV => ∃ v L, xo = .returned v ∧ own_Q_own_frame0 Z a k h0 n0 v xV.heap L ∧ FrameEnd xU xo xV L ({ frames := 1, cells := 1, slots := 3, locals := 18 } : Room).cells ({ frames := 1, cells := 1, slots := 3, locals := 18 } : Room).slots) := by
  refine MetFree.of_bodySF (plainFor_of_name own_pn792730792) hisR ?_
  intro p e s m args below meth c s₁ Bd hml0 hP hK
  obtain ⟨rfl, hZ, hh⟩ := hP
  have hx := Bd.exec
  have hby := Bd.bytes
  have hlk := Bd.notSynchronized
  have hret := Bd.returns
  have hml : c.maxLocals = 2 := hml0
  have hown : s.vm.findClass "com/example/assayline/assayline/protocol/Mllp" = some m.cls := findClass_of_methodNamed Bd.named
  have hnm := (name_of_methodNamed Bd.named Bd.method).1
  have X0 : Stand p l e ({ frames := 1, cells := 1, slots := 3, locals := 18 } : Room) s m #[(.ref a)] below meth c s₁ [] 0 0 := Stand.of_body Bd
  have e0 : s₁.heap = h0 := by rw [← hh, Bd.state]; rfl
  have N0 := Fr.nil n0
  show own_Gl p e below s (own_Q_own_frame0 Z a k h0 n0) ({ frames := 1, cells := 1, slots := 3, locals := 18 } : Room).cells ({ frames := 1, cells := 1, slots := 3, locals := 18 } : Room).slots _
  refine own_cast (own_ef_own_frame0 m a) ?_
  show own_Gl _ _ _ _ _ _ _ (s₁.setTop (mkF m 0 #[.val (.ref a), .unset] []))
  refine own_st (fun _ k => XS.aloadN X0.here hx rfl (hb hby own_d_prog_78_method_2_code_0) rfl rfl k) ?_
  show own_Gl _ _ _ _ _ _ _ (s₁.setTop (mkF m 1 #[.val (.ref a), .unset] [(.ref a)]))
  obtain ⟨cl1, Ar1, qq1, Ss1, Nn1, Hh1, Gg1⟩ := id V_a
  refine own_st (X0.arraylength hx (by rw [e0]; exact Ar1.1) (State.isArrayOf_alike hZ.alike Ar1.2.1) (g := (mkF m 1 #[.val (.ref a), .unset] [(.ref a)])) rfl rfl (hb hby own_d_prog_78_method_2_code_1)) ?_
  rw [len_of Ss1 Nn1]
  show own_Gl _ _ _ _ _ _ _ (s₁.setTop (mkF m 2 #[.val (.ref a), .unset] [(.int (0 : Int32))]))
  refine own_st (fun _ k => XS.iconst X0.here hx rfl (hb hby own_d_prog_78_method_2_code_2) k) ?_
  show own_Gl _ _ _ _ _ _ _ (s₁.setTop (mkF m 3 #[.val (.ref a), .unset] [(.int (3 : Int32)), (.int (0 : Int32))]))
  refine own_st (fun _ k => XS.iadd X0.here hx rfl (hb hby own_d_prog_78_method_2_code_3) rfl k) ?_
  show own_Gl _ _ _ _ _ _ _ (s₁.setTop (mkF m 4 #[.val (.ref a), .unset] [(.int (3 : Int32))]))
  obtain ⟨T2, h2, k2, X2, e2, E2, A2, st2⟩ := newP X0 hx hZ (hw _ (List.mem_of_getElem? (i := 1) rfl)) e0 (g := (mkF m 4 #[.val (.ref a), .unset] [(.int (3 : Int32))])) rfl (hb hby own_d_prog_78_method_2_code_4) rfl (by decide) (cap := 3) (by decide) (by decide) (by decide) (by decide)
  obtain ⟨b2, gb2⟩ : ∃ z, z = h0.size := ⟨_, rfl⟩
  rw [← gb2] at A2 st2
  refine own_st st2 ?_
  have Zs3 : n0 ≤ h2.size := Nat.le_trans Z0 E2.1
  have g_b2 : n0 ≤ b2 := Nat.le_trans Z0 (Nat.le_of_eq gb2.symm)
  have gh_b2 : h0.size ≤ b2 := Nat.le_trans (Keep.refl h0 []).1 (Nat.le_of_eq gb2.symm)
  have ne_a_b2 : a ≠ b2 := Nat.ne_of_lt (Nat.lt_of_lt_of_le V_a.lt (Nat.le_of_eq gb2.symm))
  have V_b2 : Arv Z h2 b2 k2 .byte (3 : Int32) [(.int (0 : Int32)), (.int (0 : Int32)), (.int (0 : Int32))] (.int (0 : Int32)) := (Arv.new A2 (by decide)).pad (pad_rep [] (.int (0 : Int32)) 3)
  show own_Gl _ _ _ _ _ _ _ (T2.setTop (mkF m 6 #[.val (.ref a), .unset] [(.ref b2)]))
  refine own_st (fun _ k => XS.astoreN X2.here hx rfl (hb hby own_d_prog_78_method_2_code_6) rfl rfl (l' := #[.val (.ref a), .val (.ref b2)]) rfl k) ?_
  show own_Gl _ _ _ _ _ _ _ (T2.setTop (mkF m 7 #[.val (.ref a), .val (.ref b2)] []))
  refine own_st (fun _ k => XS.aloadN X2.here hx rfl (hb hby own_d_prog_78_method_2_code_7) rfl rfl k) ?_
  show own_Gl _ _ _ _ _ _ _ (T2.setTop (mkF m 8 #[.val (.ref a), .val (.ref b2)] [(.ref b2)]))
  refine own_st (fun _ k => XS.iconst X2.here hx rfl (hb hby own_d_prog_78_method_2_code_8) k) ?_
  show own_Gl _ _ _ _ _ _ _ (T2.setTop (mkF m 9 #[.val (.ref a), .val (.ref b2)] [(.int (0 : Int32)), (.ref b2)]))
  refine own_st (fun _ k => XS.bipush X2.here hx rfl (hb hby own_d_prog_78_method_2_code_9) k) ?_
  show own_Gl _ _ _ _ _ _ _ (T2.setTop (mkF m 11 #[.val (.ref a), .val (.ref b2)] [(.int (11 : Int32)), (.int (0 : Int32)), (.ref b2)]))
  obtain ⟨cl5, Ar5, qq5, Ss5, Nn5, Hh5, Gg5⟩ := id V_b2
  have hin5 : ¬ ((0 : Int32) < 0 ∨ cl5.slots.size ≤ ((0 : Int32)).toNatClampNeg) := inb_of Ss5 ⟨by decide, by decide⟩
  obtain ⟨T5, h5, X5, e5, W5, st5⟩ := stB X2 hx hZ e2 Ar5 (j := (0 : Int32)) hin5 (g := (mkF m 11 #[.val (.ref a), .val (.ref b2)] [(.int (11 : Int32)), (.int (0 : Int32)), (.ref b2)])) rfl rfl (hb hby own_d_prog_78_method_2_code_11)
  have N5 := Fr.snoc X5 N0 g_b2
  refine own_st st5 ?_
  have Zs6 : n0 ≤ h5.size := Nat.le_trans Zs3 (Keep.of_wr W5).1
  have Vw5 : Arv Z h5 b2 k2 .byte (3 : Int32) [(.int (nar .byte (11 : Int32))), (.int (0 : Int32)), (.int (0 : Int32))] (.int (0 : Int32)) := Arv.set Ar5 qq5 Ss5 Nn5 Hh5 Gg5 (fits_nar_byte _) W5 0 (rfl) (Nat.le_of_ble_eq_true rfl)
  show own_Gl _ _ _ _ _ _ _ (T5.setTop (mkF m 12 #[.val (.ref a), .val (.ref b2)] []))
  refine own_st (fun _ k => XS.aloadN X5.here hx rfl (hb hby own_d_prog_78_method_2_code_12) rfl rfl k) ?_
  show own_Gl _ _ _ _ _ _ _ (T5.setTop (mkF m 13 #[.val (.ref a), .val (.ref b2)] [(.ref a)]))
  refine own_st (fun _ k => XS.iconst X5.here hx rfl (hb hby own_d_prog_78_method_2_code_13) k) ?_
  show own_Gl _ _ _ _ _ _ _ (T5.setTop (mkF m 14 #[.val (.ref a), .val (.ref b2)] [(.int (0 : Int32)), (.ref a)]))
  refine own_st (fun _ k => XS.aloadN X5.here hx rfl (hb hby own_d_prog_78_method_2_code_14) rfl rfl k) ?_
  show own_Gl _ _ _ _ _ _ _ (T5.setTop (mkF m 15 #[.val (.ref a), .val (.ref b2)] [(.ref b2), (.int (0 : Int32)), (.ref a)]))
  refine own_st (fun _ k => XS.iconst X5.here hx rfl (hb hby own_d_prog_78_method_2_code_15) k) ?_
  show own_Gl _ _ _ _ _ _ _ (T5.setTop (mkF m 16 #[.val (.ref a), .val (.ref b2)] [(.int (1 : Int32)), (.ref b2), (.int (0 : Int32)), (.ref a)]))
  refine own_st (fun _ k => XS.aloadN X5.here hx rfl (hb hby own_d_prog_78_method_2_code_16) rfl rfl k) ?_
  show own_Gl _ _ _ _ _ _ _ (T5.setTop (mkF m 17 #[.val (.ref a), .val (.ref b2)] [(.ref a), (.int (1 : Int32)), (.ref b2), (.int (0 : Int32)), (.ref a)]))
  have f7 := ((V_a.ext E2).other W5 ne_a_b2)
  obtain ⟨cl8, Ar8, qq8, Ss8, Nn8, Hh8, Gg8⟩ := id f7
  refine own_st (X5.arraylength hx (by rw [e5]; exact Ar8.1) (State.isArrayOf_alike hZ.alike Ar8.2.1) (g := (mkF m 17 #[.val (.ref a), .val (.ref b2)] [(.ref a), (.int (1 : Int32)), (.ref b2), (.int (0 : Int32)), (.ref a)])) rfl rfl (hb hby own_d_prog_78_method_2_code_17)) ?_
  rw [len_of Ss8 Nn8]
  show own_Gl _ _ _ _ _ _ _ (T5.setTop (mkF m 18 #[.val (.ref a), .val (.ref b2)] [(.int (0 : Int32)), (.int (1 : Int32)), (.ref b2), (.int (0 : Int32)), (.ref a)]))
  obtain ⟨T9, h9, L9, X9, e9, N9, K9, Vc9, st9⟩ := cpA X5 hx hZ hown (hw _ (List.mem_of_getElem? (i := 6) rfl)) (hw _ (List.mem_of_getElem? (i := 9) rfl)) (hw _ (List.mem_of_getElem? (i := 7) rfl)) (hw _ (List.mem_of_getElem? (i := 8) rfl)) e5 f7 Vw5 (Or.inl ⟨rfl, rfl⟩) (us := []) (by decide) (by decide) (by decide) (by decide) (by decide) rfl (Nat.le_of_ble_eq_true rfl) N5 g_b2 (g := (mkF m 18 #[.val (.ref a), .val (.ref b2)] [(.int (0 : Int32)), (.int (1 : Int32)), (.ref b2), (.int (0 : Int32)), (.ref a)])) rfl (by rw [hml]; rfl) rfl (hb hby own_d_prog_78_method_2_code_18) (by decide) (W := 0) (by show 2 * 0 + _ ≤ _; exact Nat.le_of_eq rfl) (by decide)
  refine own_st st9 ?_
  have Zs10 : n0 ≤ h9.size := Nat.le_trans Zs6 K9.1
  have Vd9 : Arv Z h9 b2 k2 .byte (3 : Int32) [(.int (nar .byte (11 : Int32))), (.int (0 : Int32)), (.int (0 : Int32))] (.int (0 : Int32)) := Vc9
  show own_Gl _ _ _ _ _ _ _ (T9.setTop (mkF m 21 #[.val (.ref a), .val (.ref b2)] []))
  refine own_st (fun _ k => XS.aloadN X9.here hx rfl (hb hby own_d_prog_78_method_2_code_21) rfl rfl k) ?_
  show own_Gl _ _ _ _ _ _ _ (T9.setTop (mkF m 22 #[.val (.ref a), .val (.ref b2)] [(.ref b2)]))
  refine own_st (fun _ k => XS.aloadN X9.here hx rfl (hb hby own_d_prog_78_method_2_code_22) rfl rfl k) ?_
  show own_Gl _ _ _ _ _ _ _ (T9.setTop (mkF m 23 #[.val (.ref a), .val (.ref b2)] [(.ref a), (.ref b2)]))
  have f11 := (f7.keep K9 (ninS ne_a_b2 nin0))
  obtain ⟨cl12, Ar12, qq12, Ss12, Nn12, Hh12, Gg12⟩ := id f11
  refine own_st (X9.arraylength hx (by rw [e9]; exact Ar12.1) (State.isArrayOf_alike hZ.alike Ar12.2.1) (g := (mkF m 23 #[.val (.ref a), .val (.ref b2)] [(.ref a), (.ref b2)])) rfl rfl (hb hby own_d_prog_78_method_2_code_23)) ?_
  rw [len_of Ss12 Nn12]
  show own_Gl _ _ _ _ _ _ _ (T9.setTop (mkF m 24 #[.val (.ref a), .val (.ref b2)] [(.int (0 : Int32)), (.ref b2)]))
  refine own_st (fun _ k => XS.iconst X9.here hx rfl (hb hby own_d_prog_78_method_2_code_24) k) ?_
  show own_Gl _ _ _ _ _ _ _ (T9.setTop (mkF m 25 #[.val (.ref a), .val (.ref b2)] [(.int (1 : Int32)), (.int (0 : Int32)), (.ref b2)]))
  refine own_st (fun _ k => XS.iadd X9.here hx rfl (hb hby own_d_prog_78_method_2_code_25) rfl k) ?_
  show own_Gl _ _ _ _ _ _ _ (T9.setTop (mkF m 26 #[.val (.ref a), .val (.ref b2)] [(.int (1 : Int32)), (.ref b2)]))
  refine own_st (fun _ k => XS.bipush X9.here hx rfl (hb hby own_d_prog_78_method_2_code_26) k) ?_
  show own_Gl _ _ _ _ _ _ _ (T9.setTop (mkF m 28 #[.val (.ref a), .val (.ref b2)] [(.int (28 : Int32)), (.int (1 : Int32)), (.ref b2)]))
  obtain ⟨cl13, Ar13, qq13, Ss13, Nn13, Hh13, Gg13⟩ := id Vd9
  have hin13 : ¬ ((1 : Int32) < 0 ∨ cl13.slots.size ≤ ((1 : Int32)).toNatClampNeg) := inb_of Ss13 ⟨by decide, by decide⟩
  obtain ⟨T13, h13, X13, e13, W13, st13⟩ := stB X9 hx hZ e9 Ar13 (j := (1 : Int32)) hin13 (g := (mkF m 28 #[.val (.ref a), .val (.ref b2)] [(.int (28 : Int32)), (.int (1 : Int32)), (.ref b2)])) rfl rfl (hb hby own_d_prog_78_method_2_code_28)
  have N13 := Fr.snoc X13 N9 g_b2
  refine own_st st13 ?_
  have Zs14 : n0 ≤ h13.size := Nat.le_trans Zs10 (Keep.of_wr W13).1
  have Vw13 : Arv Z h13 b2 k2 .byte (3 : Int32) [(.int (nar .byte (11 : Int32))), (.int (nar .byte (28 : Int32))), (.int (0 : Int32))] (.int (0 : Int32)) := Arv.set Ar13 qq13 Ss13 Nn13 Hh13 Gg13 (fits_nar_byte _) W13 1 (rfl) (Nat.le_of_ble_eq_true rfl)
  show own_Gl _ _ _ _ _ _ _ (T13.setTop (mkF m 29 #[.val (.ref a), .val (.ref b2)] []))
  refine own_st (fun _ k => XS.aloadN X13.here hx rfl (hb hby own_d_prog_78_method_2_code_29) rfl rfl k) ?_
  show own_Gl _ _ _ _ _ _ _ (T13.setTop (mkF m 30 #[.val (.ref a), .val (.ref b2)] [(.ref b2)]))
  refine own_st (fun _ k => XS.aloadN X13.here hx rfl (hb hby own_d_prog_78_method_2_code_30) rfl rfl k) ?_
  show own_Gl _ _ _ _ _ _ _ (T13.setTop (mkF m 31 #[.val (.ref a), .val (.ref b2)] [(.ref a), (.ref b2)]))
  have f15 := (f11.other W13 ne_a_b2)
  obtain ⟨cl16, Ar16, qq16, Ss16, Nn16, Hh16, Gg16⟩ := id f15
  refine own_st (X13.arraylength hx (by rw [e13]; exact Ar16.1) (State.isArrayOf_alike hZ.alike Ar16.2.1) (g := (mkF m 31 #[.val (.ref a), .val (.ref b2)] [(.ref a), (.ref b2)])) rfl rfl (hb hby own_d_prog_78_method_2_code_31)) ?_
  rw [len_of Ss16 Nn16]
  show own_Gl _ _ _ _ _ _ _ (T13.setTop (mkF m 32 #[.val (.ref a), .val (.ref b2)] [(.int (0 : Int32)), (.ref b2)]))
  refine own_st (fun _ k => XS.iconst X13.here hx rfl (hb hby own_d_prog_78_method_2_code_32) k) ?_
  show own_Gl _ _ _ _ _ _ _ (T13.setTop (mkF m 33 #[.val (.ref a), .val (.ref b2)] [(.int (2 : Int32)), (.int (0 : Int32)), (.ref b2)]))
  refine own_st (fun _ k => XS.iadd X13.here hx rfl (hb hby own_d_prog_78_method_2_code_33) rfl k) ?_
  show own_Gl _ _ _ _ _ _ _ (T13.setTop (mkF m 34 #[.val (.ref a), .val (.ref b2)] [(.int (2 : Int32)), (.ref b2)]))
  refine own_st (fun _ k => XS.bipush X13.here hx rfl (hb hby own_d_prog_78_method_2_code_34) k) ?_
  show own_Gl _ _ _ _ _ _ _ (T13.setTop (mkF m 36 #[.val (.ref a), .val (.ref b2)] [(.int (13 : Int32)), (.int (2 : Int32)), (.ref b2)]))
  obtain ⟨cl17, Ar17, qq17, Ss17, Nn17, Hh17, Gg17⟩ := id Vw13
  have hin17 : ¬ ((2 : Int32) < 0 ∨ cl17.slots.size ≤ ((2 : Int32)).toNatClampNeg) := inb_of Ss17 ⟨by decide, by decide⟩
  obtain ⟨T17, h17, X17, e17, W17, st17⟩ := stB X13 hx hZ e13 Ar17 (j := (2 : Int32)) hin17 (g := (mkF m 36 #[.val (.ref a), .val (.ref b2)] [(.int (13 : Int32)), (.int (2 : Int32)), (.ref b2)])) rfl rfl (hb hby own_d_prog_78_method_2_code_36)
  have N17 := Fr.snoc X17 N13 g_b2
  refine own_st st17 ?_
  have Zs18 : n0 ≤ h17.size := Nat.le_trans Zs14 (Keep.of_wr W17).1
  have Vw17 : Arv Z h17 b2 k2 .byte (3 : Int32) [(.int (nar .byte (11 : Int32))), (.int (nar .byte (28 : Int32))), (.int (nar .byte (13 : Int32)))] (.int (0 : Int32)) := Arv.set Ar17 qq17 Ss17 Nn17 Hh17 Gg17 (fits_nar_byte _) W17 2 (rfl) (Nat.le_of_ble_eq_true rfl)
  show own_Gl _ _ _ _ _ _ _ (T17.setTop (mkF m 37 #[.val (.ref a), .val (.ref b2)] []))
  refine own_st (fun _ k => XS.aloadN X17.here hx rfl (hb hby own_d_prog_78_method_2_code_37) rfl rfl k) ?_
  show own_Gl _ _ _ _ _ _ _ (T17.setTop (mkF m 38 #[.val (.ref a), .val (.ref b2)] [(.ref b2)]))
  have K19 : Keep h0 h17 [] := ((((((Keep.refl h0 []).ext E2).wr W5 (Or.inr gh_b2)).trans K9 (allS (Or.inr gh_b2) all0)).wr W13 (Or.inr gh_b2)).wr W17 (Or.inr gh_b2))
  exact own_retA X17 hx hlk hret rfl rfl rfl (hb hby own_d_prog_78_method_2_code_38) e17 ⟨b2, k2, rfl, N17, K19, g_b2, gh_b2, Vw17⟩ (by decide) (by decide)
theorem own_ef_own_frame1 (m : MethodId) (x0 : Addr) : entryFrame m #[(.ref x0)] 2 = mkF m 0 #[.val (.ref x0), .unset] [] := by first | (simp [entryFrame, mkF, argsToLocals, Value.category]; done) | rfl
def own_Q_own_frame1 (Z : State) (a : Addr) (k : ClassId) (v0 : Int32) (h0 : Heap) (n0 : Nat) (v : Option Value) (h : Heap) (L : List Loc) : Prop := ∃ (r : Addr) (kr : ClassId), (v = some (.ref r)) ∧ (Fr n0 L) ∧ (Keep h0 h []) ∧ (n0 ≤ r) ∧ (h0.size ≤ r) ∧ (Arv Z h r kr .byte (4 : Int32) [(.int (nar .byte (11 : Int32))), (.int v0), (.int (nar .byte (28 : Int32))), (.int (nar .byte (13 : Int32)))] (.int (0 : Int32)))
set_option maxRecDepth 65536 in
set_option maxHeartbeats 40000000 in
theorem own_frame1 (l : Launch) (Z : State) (a0 : Array Value) (hw : ∀ d ∈ tables_1, d.before a0 Z = true) (ws : List Jvm.Cond) (a : Addr) (k : ClassId) (v0 : Int32) (h0 : Heap) (n0 : Nat) (Z0 : n0 ≤ h0.size) (V_a : Arv Z h0 a k .byte (1 : Int32) [(.int v0)] (.int (0 : Int32))) :
    MetFree l (⟨"com/example/assayline/assayline/protocol/Mllp", "frame", "([B)[B"⟩ : MethodName) (head1 (Jvm.Cond.code (⟨"com/example/assayline/assayline/protocol/Mllp", "frame", "([B)[B"⟩ : MethodName) prog_78_method_2_code 2 (some (.array .byte)) :: ws) ({ frames := 1, cells := 1, slots := 4, locals := 18 } : Room)) (fun xa xU => xa = #[(.ref a)] ∧ Z.Warmed39 xU.vm ∧ xU.heap = h0) (fun _ _ _ _ _ => True) (fun _ xU xo xV => ∃ v L, xo = .returned v ∧ own_Q_own_frame1 Z a k v0 h0 n0 v xV.heap L ∧ FrameEnd xU xo xV L ({ frames := 1, cells := 1, slots := 4, locals := 18 } : Room).cells ({ frames := 1, cells := 1, slots := 4, locals := 18 } : Room).slots) := by
  refine MetFree.of_bodySF (plainFor_of_name own_pn792730792) hisR ?_
  intro p e s m args below meth c s₁ Bd hml0 hP hK
  obtain ⟨rfl, hZ, hh⟩ := hP
  have hx := Bd.exec
  have hby := Bd.bytes
  have hlk := Bd.notSynchronized
  have hret := Bd.returns
  have hml : c.maxLocals = 2 := hml0
  have hown : s.vm.findClass "com/example/assayline/assayline/protocol/Mllp" = some m.cls := findClass_of_methodNamed Bd.named
  have hnm := (name_of_methodNamed Bd.named Bd.method).1
  have X0 : Stand p l e ({ frames := 1, cells := 1, slots := 4, locals := 18 } : Room) s m #[(.ref a)] below meth c s₁ [] 0 0 := Stand.of_body Bd
  have e0 : s₁.heap = h0 := by rw [← hh, Bd.state]; rfl
  have N0 := Fr.nil n0
  show own_Gl p e below s (own_Q_own_frame1 Z a k v0 h0 n0) ({ frames := 1, cells := 1, slots := 4, locals := 18 } : Room).cells ({ frames := 1, cells := 1, slots := 4, locals := 18 } : Room).slots _
  refine own_cast (own_ef_own_frame1 m a) ?_
  show own_Gl _ _ _ _ _ _ _ (s₁.setTop (mkF m 0 #[.val (.ref a), .unset] []))
  refine own_st (fun _ k => XS.aloadN X0.here hx rfl (hb hby own_d_prog_78_method_2_code_0) rfl rfl k) ?_
  show own_Gl _ _ _ _ _ _ _ (s₁.setTop (mkF m 1 #[.val (.ref a), .unset] [(.ref a)]))
  obtain ⟨cl1, Ar1, qq1, Ss1, Nn1, Hh1, Gg1⟩ := id V_a
  refine own_st (X0.arraylength hx (by rw [e0]; exact Ar1.1) (State.isArrayOf_alike hZ.alike Ar1.2.1) (g := (mkF m 1 #[.val (.ref a), .unset] [(.ref a)])) rfl rfl (hb hby own_d_prog_78_method_2_code_1)) ?_
  rw [len_of Ss1 Nn1]
  show own_Gl _ _ _ _ _ _ _ (s₁.setTop (mkF m 2 #[.val (.ref a), .unset] [(.int (1 : Int32))]))
  refine own_st (fun _ k => XS.iconst X0.here hx rfl (hb hby own_d_prog_78_method_2_code_2) k) ?_
  show own_Gl _ _ _ _ _ _ _ (s₁.setTop (mkF m 3 #[.val (.ref a), .unset] [(.int (3 : Int32)), (.int (1 : Int32))]))
  refine own_st (fun _ k => XS.iadd X0.here hx rfl (hb hby own_d_prog_78_method_2_code_3) rfl k) ?_
  show own_Gl _ _ _ _ _ _ _ (s₁.setTop (mkF m 4 #[.val (.ref a), .unset] [(.int (4 : Int32))]))
  obtain ⟨T2, h2, k2, X2, e2, E2, A2, st2⟩ := newP X0 hx hZ (hw _ (List.mem_of_getElem? (i := 1) rfl)) e0 (g := (mkF m 4 #[.val (.ref a), .unset] [(.int (4 : Int32))])) rfl (hb hby own_d_prog_78_method_2_code_4) rfl (by decide) (cap := 4) (by decide) (by decide) (by decide) (by decide)
  obtain ⟨b2, gb2⟩ : ∃ z, z = h0.size := ⟨_, rfl⟩
  rw [← gb2] at A2 st2
  refine own_st st2 ?_
  have Zs3 : n0 ≤ h2.size := Nat.le_trans Z0 E2.1
  have g_b2 : n0 ≤ b2 := Nat.le_trans Z0 (Nat.le_of_eq gb2.symm)
  have gh_b2 : h0.size ≤ b2 := Nat.le_trans (Keep.refl h0 []).1 (Nat.le_of_eq gb2.symm)
  have ne_a_b2 : a ≠ b2 := Nat.ne_of_lt (Nat.lt_of_lt_of_le V_a.lt (Nat.le_of_eq gb2.symm))
  have V_b2 : Arv Z h2 b2 k2 .byte (4 : Int32) [(.int (0 : Int32)), (.int (0 : Int32)), (.int (0 : Int32)), (.int (0 : Int32))] (.int (0 : Int32)) := (Arv.new A2 (by decide)).pad (pad_rep [] (.int (0 : Int32)) 4)
  show own_Gl _ _ _ _ _ _ _ (T2.setTop (mkF m 6 #[.val (.ref a), .unset] [(.ref b2)]))
  refine own_st (fun _ k => XS.astoreN X2.here hx rfl (hb hby own_d_prog_78_method_2_code_6) rfl rfl (l' := #[.val (.ref a), .val (.ref b2)]) rfl k) ?_
  show own_Gl _ _ _ _ _ _ _ (T2.setTop (mkF m 7 #[.val (.ref a), .val (.ref b2)] []))
  refine own_st (fun _ k => XS.aloadN X2.here hx rfl (hb hby own_d_prog_78_method_2_code_7) rfl rfl k) ?_
  show own_Gl _ _ _ _ _ _ _ (T2.setTop (mkF m 8 #[.val (.ref a), .val (.ref b2)] [(.ref b2)]))
  refine own_st (fun _ k => XS.iconst X2.here hx rfl (hb hby own_d_prog_78_method_2_code_8) k) ?_
  show own_Gl _ _ _ _ _ _ _ (T2.setTop (mkF m 9 #[.val (.ref a), .val (.ref b2)] [(.int (0 : Int32)), (.ref b2)]))
  refine own_st (fun _ k => XS.bipush X2.here hx rfl (hb hby own_d_prog_78_method_2_code_9) k) ?_
  show own_Gl _ _ _ _ _ _ _ (T2.setTop (mkF m 11 #[.val (.ref a), .val (.ref b2)] [(.int (11 : Int32)), (.int (0 : Int32)), (.ref b2)]))
  obtain ⟨cl5, Ar5, qq5, Ss5, Nn5, Hh5, Gg5⟩ := id V_b2
  have hin5 : ¬ ((0 : Int32) < 0 ∨ cl5.slots.size ≤ ((0 : Int32)).toNatClampNeg) := inb_of Ss5 ⟨by decide, by decide⟩
  obtain ⟨T5, h5, X5, e5, W5, st5⟩ := stB X2 hx hZ e2 Ar5 (j := (0 : Int32)) hin5 (g := (mkF m 11 #[.val (.ref a), .val (.ref b2)] [(.int (11 : Int32)), (.int (0 : Int32)), (.ref b2)])) rfl rfl (hb hby own_d_prog_78_method_2_code_11)
  have N5 := Fr.snoc X5 N0 g_b2
  refine own_st st5 ?_
  have Zs6 : n0 ≤ h5.size := Nat.le_trans Zs3 (Keep.of_wr W5).1
  have Vw5 : Arv Z h5 b2 k2 .byte (4 : Int32) [(.int (nar .byte (11 : Int32))), (.int (0 : Int32)), (.int (0 : Int32)), (.int (0 : Int32))] (.int (0 : Int32)) := Arv.set Ar5 qq5 Ss5 Nn5 Hh5 Gg5 (fits_nar_byte _) W5 0 (rfl) (Nat.le_of_ble_eq_true rfl)
  show own_Gl _ _ _ _ _ _ _ (T5.setTop (mkF m 12 #[.val (.ref a), .val (.ref b2)] []))
  refine own_st (fun _ k => XS.aloadN X5.here hx rfl (hb hby own_d_prog_78_method_2_code_12) rfl rfl k) ?_
  show own_Gl _ _ _ _ _ _ _ (T5.setTop (mkF m 13 #[.val (.ref a), .val (.ref b2)] [(.ref a)]))
  refine own_st (fun _ k => XS.iconst X5.here hx rfl (hb hby own_d_prog_78_method_2_code_13) k) ?_
  show own_Gl _ _ _ _ _ _ _ (T5.setTop (mkF m 14 #[.val (.ref a), .val (.ref b2)] [(.int (0 : Int32)), (.ref a)]))
  refine own_st (fun _ k => XS.aloadN X5.here hx rfl (hb hby own_d_prog_78_method_2_code_14) rfl rfl k) ?_
  show own_Gl _ _ _ _ _ _ _ (T5.setTop (mkF m 15 #[.val (.ref a), .val (.ref b2)] [(.ref b2), (.int (0 : Int32)), (.ref a)]))
  refine own_st (fun _ k => XS.iconst X5.here hx rfl (hb hby own_d_prog_78_method_2_code_15) k) ?_
  show own_Gl _ _ _ _ _ _ _ (T5.setTop (mkF m 16 #[.val (.ref a), .val (.ref b2)] [(.int (1 : Int32)), (.ref b2), (.int (0 : Int32)), (.ref a)]))
  refine own_st (fun _ k => XS.aloadN X5.here hx rfl (hb hby own_d_prog_78_method_2_code_16) rfl rfl k) ?_
  show own_Gl _ _ _ _ _ _ _ (T5.setTop (mkF m 17 #[.val (.ref a), .val (.ref b2)] [(.ref a), (.int (1 : Int32)), (.ref b2), (.int (0 : Int32)), (.ref a)]))
  have f7 := ((V_a.ext E2).other W5 ne_a_b2)
  obtain ⟨cl8, Ar8, qq8, Ss8, Nn8, Hh8, Gg8⟩ := id f7
  refine own_st (X5.arraylength hx (by rw [e5]; exact Ar8.1) (State.isArrayOf_alike hZ.alike Ar8.2.1) (g := (mkF m 17 #[.val (.ref a), .val (.ref b2)] [(.ref a), (.int (1 : Int32)), (.ref b2), (.int (0 : Int32)), (.ref a)])) rfl rfl (hb hby own_d_prog_78_method_2_code_17)) ?_
  rw [len_of Ss8 Nn8]
  show own_Gl _ _ _ _ _ _ _ (T5.setTop (mkF m 18 #[.val (.ref a), .val (.ref b2)] [(.int (1 : Int32)), (.int (1 : Int32)), (.ref b2), (.int (0 : Int32)), (.ref a)]))
  obtain ⟨T9, h9, L9, X9, e9, N9, K9, Vc9, st9⟩ := cpA X5 hx hZ hown (hw _ (List.mem_of_getElem? (i := 6) rfl)) (hw _ (List.mem_of_getElem? (i := 9) rfl)) (hw _ (List.mem_of_getElem? (i := 7) rfl)) (hw _ (List.mem_of_getElem? (i := 8) rfl)) e5 f7 Vw5 (Or.inl ⟨rfl, rfl⟩) (us := [(.int v0)]) (by decide) (by decide) (by decide) (by decide) (by decide) rfl (Nat.le_of_ble_eq_true rfl) N5 g_b2 (g := (mkF m 18 #[.val (.ref a), .val (.ref b2)] [(.int (1 : Int32)), (.int (1 : Int32)), (.ref b2), (.int (0 : Int32)), (.ref a)])) rfl (by rw [hml]; rfl) rfl (hb hby own_d_prog_78_method_2_code_18) (by decide) (W := 0) (by show 2 * 0 + _ ≤ _; exact Nat.le_of_eq rfl) (by decide)
  refine own_st st9 ?_
  have Zs10 : n0 ≤ h9.size := Nat.le_trans Zs6 K9.1
  have Vd9 : Arv Z h9 b2 k2 .byte (4 : Int32) [(.int (nar .byte (11 : Int32))), (.int v0), (.int (0 : Int32)), (.int (0 : Int32))] (.int (0 : Int32)) := Vc9
  show own_Gl _ _ _ _ _ _ _ (T9.setTop (mkF m 21 #[.val (.ref a), .val (.ref b2)] []))
  refine own_st (fun _ k => XS.aloadN X9.here hx rfl (hb hby own_d_prog_78_method_2_code_21) rfl rfl k) ?_
  show own_Gl _ _ _ _ _ _ _ (T9.setTop (mkF m 22 #[.val (.ref a), .val (.ref b2)] [(.ref b2)]))
  refine own_st (fun _ k => XS.aloadN X9.here hx rfl (hb hby own_d_prog_78_method_2_code_22) rfl rfl k) ?_
  show own_Gl _ _ _ _ _ _ _ (T9.setTop (mkF m 23 #[.val (.ref a), .val (.ref b2)] [(.ref a), (.ref b2)]))
  have f11 := (f7.keep K9 (ninS ne_a_b2 nin0))
  obtain ⟨cl12, Ar12, qq12, Ss12, Nn12, Hh12, Gg12⟩ := id f11
  refine own_st (X9.arraylength hx (by rw [e9]; exact Ar12.1) (State.isArrayOf_alike hZ.alike Ar12.2.1) (g := (mkF m 23 #[.val (.ref a), .val (.ref b2)] [(.ref a), (.ref b2)])) rfl rfl (hb hby own_d_prog_78_method_2_code_23)) ?_
  rw [len_of Ss12 Nn12]
  show own_Gl _ _ _ _ _ _ _ (T9.setTop (mkF m 24 #[.val (.ref a), .val (.ref b2)] [(.int (1 : Int32)), (.ref b2)]))
  refine own_st (fun _ k => XS.iconst X9.here hx rfl (hb hby own_d_prog_78_method_2_code_24) k) ?_
  show own_Gl _ _ _ _ _ _ _ (T9.setTop (mkF m 25 #[.val (.ref a), .val (.ref b2)] [(.int (1 : Int32)), (.int (1 : Int32)), (.ref b2)]))
  refine own_st (fun _ k => XS.iadd X9.here hx rfl (hb hby own_d_prog_78_method_2_code_25) rfl k) ?_
  show own_Gl _ _ _ _ _ _ _ (T9.setTop (mkF m 26 #[.val (.ref a), .val (.ref b2)] [(.int (2 : Int32)), (.ref b2)]))
  refine own_st (fun _ k => XS.bipush X9.here hx rfl (hb hby own_d_prog_78_method_2_code_26) k) ?_
  show own_Gl _ _ _ _ _ _ _ (T9.setTop (mkF m 28 #[.val (.ref a), .val (.ref b2)] [(.int (28 : Int32)), (.int (2 : Int32)), (.ref b2)]))
  obtain ⟨cl13, Ar13, qq13, Ss13, Nn13, Hh13, Gg13⟩ := id Vd9
  have hin13 : ¬ ((2 : Int32) < 0 ∨ cl13.slots.size ≤ ((2 : Int32)).toNatClampNeg) := inb_of Ss13 ⟨by decide, by decide⟩
  obtain ⟨T13, h13, X13, e13, W13, st13⟩ := stB X9 hx hZ e9 Ar13 (j := (2 : Int32)) hin13 (g := (mkF m 28 #[.val (.ref a), .val (.ref b2)] [(.int (28 : Int32)), (.int (2 : Int32)), (.ref b2)])) rfl rfl (hb hby own_d_prog_78_method_2_code_28)
  have N13 := Fr.snoc X13 N9 g_b2
  refine own_st st13 ?_
  have Zs14 : n0 ≤ h13.size := Nat.le_trans Zs10 (Keep.of_wr W13).1
  have Vw13 : Arv Z h13 b2 k2 .byte (4 : Int32) [(.int (nar .byte (11 : Int32))), (.int v0), (.int (nar .byte (28 : Int32))), (.int (0 : Int32))] (.int (0 : Int32)) := Arv.set Ar13 qq13 Ss13 Nn13 Hh13 Gg13 (fits_nar_byte _) W13 2 (rfl) (Nat.le_of_ble_eq_true rfl)
  show own_Gl _ _ _ _ _ _ _ (T13.setTop (mkF m 29 #[.val (.ref a), .val (.ref b2)] []))
  refine own_st (fun _ k => XS.aloadN X13.here hx rfl (hb hby own_d_prog_78_method_2_code_29) rfl rfl k) ?_
  show own_Gl _ _ _ _ _ _ _ (T13.setTop (mkF m 30 #[.val (.ref a), .val (.ref b2)] [(.ref b2)]))
  refine own_st (fun _ k => XS.aloadN X13.here hx rfl (hb hby own_d_prog_78_method_2_code_30) rfl rfl k) ?_
  show own_Gl _ _ _ _ _ _ _ (T13.setTop (mkF m 31 #[.val (.ref a), .val (.ref b2)] [(.ref a), (.ref b2)]))
  have f15 := (f11.other W13 ne_a_b2)
  obtain ⟨cl16, Ar16, qq16, Ss16, Nn16, Hh16, Gg16⟩ := id f15
  refine own_st (X13.arraylength hx (by rw [e13]; exact Ar16.1) (State.isArrayOf_alike hZ.alike Ar16.2.1) (g := (mkF m 31 #[.val (.ref a), .val (.ref b2)] [(.ref a), (.ref b2)])) rfl rfl (hb hby own_d_prog_78_method_2_code_31)) ?_
  rw [len_of Ss16 Nn16]
  show own_Gl _ _ _ _ _ _ _ (T13.setTop (mkF m 32 #[.val (.ref a), .val (.ref b2)] [(.int (1 : Int32)), (.ref b2)]))
  refine own_st (fun _ k => XS.iconst X13.here hx rfl (hb hby own_d_prog_78_method_2_code_32) k) ?_
  show own_Gl _ _ _ _ _ _ _ (T13.setTop (mkF m 33 #[.val (.ref a), .val (.ref b2)] [(.int (2 : Int32)), (.int (1 : Int32)), (.ref b2)]))
  refine own_st (fun _ k => XS.iadd X13.here hx rfl (hb hby own_d_prog_78_method_2_code_33) rfl k) ?_
  show own_Gl _ _ _ _ _ _ _ (T13.setTop (mkF m 34 #[.val (.ref a), .val (.ref b2)] [(.int (3 : Int32)), (.ref b2)]))
  refine own_st (fun _ k => XS.bipush X13.here hx rfl (hb hby own_d_prog_78_method_2_code_34) k) ?_
  show own_Gl _ _ _ _ _ _ _ (T13.setTop (mkF m 36 #[.val (.ref a), .val (.ref b2)] [(.int (13 : Int32)), (.int (3 : Int32)), (.ref b2)]))
  obtain ⟨cl17, Ar17, qq17, Ss17, Nn17, Hh17, Gg17⟩ := id Vw13
  have hin17 : ¬ ((3 : Int32) < 0 ∨ cl17.slots.size ≤ ((3 : Int32)).toNatClampNeg) := inb_of Ss17 ⟨by decide, by decide⟩
  obtain ⟨T17, h17, X17, e17, W17, st17⟩ := stB X13 hx hZ e13 Ar17 (j := (3 : Int32)) hin17 (g := (mkF m 36 #[.val (.ref a), .val (.ref b2)] [(.int (13 : Int32)), (.int (3 : Int32)), (.ref b2)])) rfl rfl (hb hby own_d_prog_78_method_2_code_36)
  have N17 := Fr.snoc X17 N13 g_b2
  refine own_st st17 ?_
  have Zs18 : n0 ≤ h17.size := Nat.le_trans Zs14 (Keep.of_wr W17).1
  have Vw17 : Arv Z h17 b2 k2 .byte (4 : Int32) [(.int (nar .byte (11 : Int32))), (.int v0), (.int (nar .byte (28 : Int32))), (.int (nar .byte (13 : Int32)))] (.int (0 : Int32)) := Arv.set Ar17 qq17 Ss17 Nn17 Hh17 Gg17 (fits_nar_byte _) W17 3 (rfl) (Nat.le_of_ble_eq_true rfl)
  show own_Gl _ _ _ _ _ _ _ (T17.setTop (mkF m 37 #[.val (.ref a), .val (.ref b2)] []))
  refine own_st (fun _ k => XS.aloadN X17.here hx rfl (hb hby own_d_prog_78_method_2_code_37) rfl rfl k) ?_
  show own_Gl _ _ _ _ _ _ _ (T17.setTop (mkF m 38 #[.val (.ref a), .val (.ref b2)] [(.ref b2)]))
  have K19 : Keep h0 h17 [] := ((((((Keep.refl h0 []).ext E2).wr W5 (Or.inr gh_b2)).trans K9 (allS (Or.inr gh_b2) all0)).wr W13 (Or.inr gh_b2)).wr W17 (Or.inr gh_b2))
  exact own_retA X17 hx hlk hret rfl rfl rfl (hb hby own_d_prog_78_method_2_code_38) e17 ⟨b2, k2, rfl, N17, K19, g_b2, gh_b2, Vw17⟩ (by decide) (by decide)
theorem own_ef_own_frame2 (m : MethodId) (x0 : Addr) : entryFrame m #[(.ref x0)] 2 = mkF m 0 #[.val (.ref x0), .unset] [] := by first | (simp [entryFrame, mkF, argsToLocals, Value.category]; done) | rfl
def own_Q_own_frame2 (Z : State) (a : Addr) (k : ClassId) (v0 : Int32) (v1 : Int32) (h0 : Heap) (n0 : Nat) (v : Option Value) (h : Heap) (L : List Loc) : Prop := ∃ (r : Addr) (kr : ClassId), (v = some (.ref r)) ∧ (Fr n0 L) ∧ (Keep h0 h []) ∧ (n0 ≤ r) ∧ (h0.size ≤ r) ∧ (Arv Z h r kr .byte (5 : Int32) [(.int (nar .byte (11 : Int32))), (.int v0), (.int v1), (.int (nar .byte (28 : Int32))), (.int (nar .byte (13 : Int32)))] (.int (0 : Int32)))
set_option maxRecDepth 65536 in
set_option maxHeartbeats 40000000 in
theorem own_frame2 (l : Launch) (Z : State) (a0 : Array Value) (hw : ∀ d ∈ tables_1, d.before a0 Z = true) (ws : List Jvm.Cond) (a : Addr) (k : ClassId) (v0 : Int32) (v1 : Int32) (h0 : Heap) (n0 : Nat) (Z0 : n0 ≤ h0.size) (V_a : Arv Z h0 a k .byte (2 : Int32) [(.int v0), (.int v1)] (.int (0 : Int32))) :
    MetFree l (⟨"com/example/assayline/assayline/protocol/Mllp", "frame", "([B)[B"⟩ : MethodName) (head1 (Jvm.Cond.code (⟨"com/example/assayline/assayline/protocol/Mllp", "frame", "([B)[B"⟩ : MethodName) prog_78_method_2_code 2 (some (.array .byte)) :: ws) ({ frames := 1, cells := 1, slots := 5, locals := 18 } : Room)) (fun xa xU => xa = #[(.ref a)] ∧ Z.Warmed39 xU.vm ∧ xU.heap = h0) (fun _ _ _ _ _ => True) (fun _ xU xo xV => ∃ v L, xo = .returned v ∧ own_Q_own_frame2 Z a k v0 v1 h0 n0 v xV.heap L ∧ FrameEnd xU xo xV L ({ frames := 1, cells := 1, slots := 5, locals := 18 } : Room).cells ({ frames := 1, cells := 1, slots := 5, locals := 18 } : Room).slots) := by
  refine MetFree.of_bodySF (plainFor_of_name own_pn792730792) hisR ?_
  intro p e s m args below meth c s₁ Bd hml0 hP hK
  obtain ⟨rfl, hZ, hh⟩ := hP
  have hx := Bd.exec
  have hby := Bd.bytes
  have hlk := Bd.notSynchronized
  have hret := Bd.returns
  have hml : c.maxLocals = 2 := hml0
  have hown : s.vm.findClass "com/example/assayline/assayline/protocol/Mllp" = some m.cls := findClass_of_methodNamed Bd.named
  have hnm := (name_of_methodNamed Bd.named Bd.method).1
  have X0 : Stand p l e ({ frames := 1, cells := 1, slots := 5, locals := 18 } : Room) s m #[(.ref a)] below meth c s₁ [] 0 0 := Stand.of_body Bd
  have e0 : s₁.heap = h0 := by rw [← hh, Bd.state]; rfl
  have N0 := Fr.nil n0
  show own_Gl p e below s (own_Q_own_frame2 Z a k v0 v1 h0 n0) ({ frames := 1, cells := 1, slots := 5, locals := 18 } : Room).cells ({ frames := 1, cells := 1, slots := 5, locals := 18 } : Room).slots _
  refine own_cast (own_ef_own_frame2 m a) ?_
  show own_Gl _ _ _ _ _ _ _ (s₁.setTop (mkF m 0 #[.val (.ref a), .unset] []))
  refine own_st (fun _ k => XS.aloadN X0.here hx rfl (hb hby own_d_prog_78_method_2_code_0) rfl rfl k) ?_
  show own_Gl _ _ _ _ _ _ _ (s₁.setTop (mkF m 1 #[.val (.ref a), .unset] [(.ref a)]))
  obtain ⟨cl1, Ar1, qq1, Ss1, Nn1, Hh1, Gg1⟩ := id V_a
  refine own_st (X0.arraylength hx (by rw [e0]; exact Ar1.1) (State.isArrayOf_alike hZ.alike Ar1.2.1) (g := (mkF m 1 #[.val (.ref a), .unset] [(.ref a)])) rfl rfl (hb hby own_d_prog_78_method_2_code_1)) ?_
  rw [len_of Ss1 Nn1]
  show own_Gl _ _ _ _ _ _ _ (s₁.setTop (mkF m 2 #[.val (.ref a), .unset] [(.int (2 : Int32))]))
  refine own_st (fun _ k => XS.iconst X0.here hx rfl (hb hby own_d_prog_78_method_2_code_2) k) ?_
  show own_Gl _ _ _ _ _ _ _ (s₁.setTop (mkF m 3 #[.val (.ref a), .unset] [(.int (3 : Int32)), (.int (2 : Int32))]))
  refine own_st (fun _ k => XS.iadd X0.here hx rfl (hb hby own_d_prog_78_method_2_code_3) rfl k) ?_
  show own_Gl _ _ _ _ _ _ _ (s₁.setTop (mkF m 4 #[.val (.ref a), .unset] [(.int (5 : Int32))]))
  obtain ⟨T2, h2, k2, X2, e2, E2, A2, st2⟩ := newP X0 hx hZ (hw _ (List.mem_of_getElem? (i := 1) rfl)) e0 (g := (mkF m 4 #[.val (.ref a), .unset] [(.int (5 : Int32))])) rfl (hb hby own_d_prog_78_method_2_code_4) rfl (by decide) (cap := 5) (by decide) (by decide) (by decide) (by decide)
  obtain ⟨b2, gb2⟩ : ∃ z, z = h0.size := ⟨_, rfl⟩
  rw [← gb2] at A2 st2
  refine own_st st2 ?_
  have Zs3 : n0 ≤ h2.size := Nat.le_trans Z0 E2.1
  have g_b2 : n0 ≤ b2 := Nat.le_trans Z0 (Nat.le_of_eq gb2.symm)
  have gh_b2 : h0.size ≤ b2 := Nat.le_trans (Keep.refl h0 []).1 (Nat.le_of_eq gb2.symm)
  have ne_a_b2 : a ≠ b2 := Nat.ne_of_lt (Nat.lt_of_lt_of_le V_a.lt (Nat.le_of_eq gb2.symm))
  have V_b2 : Arv Z h2 b2 k2 .byte (5 : Int32) [(.int (0 : Int32)), (.int (0 : Int32)), (.int (0 : Int32)), (.int (0 : Int32)), (.int (0 : Int32))] (.int (0 : Int32)) := (Arv.new A2 (by decide)).pad (pad_rep [] (.int (0 : Int32)) 5)
  show own_Gl _ _ _ _ _ _ _ (T2.setTop (mkF m 6 #[.val (.ref a), .unset] [(.ref b2)]))
  refine own_st (fun _ k => XS.astoreN X2.here hx rfl (hb hby own_d_prog_78_method_2_code_6) rfl rfl (l' := #[.val (.ref a), .val (.ref b2)]) rfl k) ?_
  show own_Gl _ _ _ _ _ _ _ (T2.setTop (mkF m 7 #[.val (.ref a), .val (.ref b2)] []))
  refine own_st (fun _ k => XS.aloadN X2.here hx rfl (hb hby own_d_prog_78_method_2_code_7) rfl rfl k) ?_
  show own_Gl _ _ _ _ _ _ _ (T2.setTop (mkF m 8 #[.val (.ref a), .val (.ref b2)] [(.ref b2)]))
  refine own_st (fun _ k => XS.iconst X2.here hx rfl (hb hby own_d_prog_78_method_2_code_8) k) ?_
  show own_Gl _ _ _ _ _ _ _ (T2.setTop (mkF m 9 #[.val (.ref a), .val (.ref b2)] [(.int (0 : Int32)), (.ref b2)]))
  refine own_st (fun _ k => XS.bipush X2.here hx rfl (hb hby own_d_prog_78_method_2_code_9) k) ?_
  show own_Gl _ _ _ _ _ _ _ (T2.setTop (mkF m 11 #[.val (.ref a), .val (.ref b2)] [(.int (11 : Int32)), (.int (0 : Int32)), (.ref b2)]))
  obtain ⟨cl5, Ar5, qq5, Ss5, Nn5, Hh5, Gg5⟩ := id V_b2
  have hin5 : ¬ ((0 : Int32) < 0 ∨ cl5.slots.size ≤ ((0 : Int32)).toNatClampNeg) := inb_of Ss5 ⟨by decide, by decide⟩
  obtain ⟨T5, h5, X5, e5, W5, st5⟩ := stB X2 hx hZ e2 Ar5 (j := (0 : Int32)) hin5 (g := (mkF m 11 #[.val (.ref a), .val (.ref b2)] [(.int (11 : Int32)), (.int (0 : Int32)), (.ref b2)])) rfl rfl (hb hby own_d_prog_78_method_2_code_11)
  have N5 := Fr.snoc X5 N0 g_b2
  refine own_st st5 ?_
  have Zs6 : n0 ≤ h5.size := Nat.le_trans Zs3 (Keep.of_wr W5).1
  have Vw5 : Arv Z h5 b2 k2 .byte (5 : Int32) [(.int (nar .byte (11 : Int32))), (.int (0 : Int32)), (.int (0 : Int32)), (.int (0 : Int32)), (.int (0 : Int32))] (.int (0 : Int32)) := Arv.set Ar5 qq5 Ss5 Nn5 Hh5 Gg5 (fits_nar_byte _) W5 0 (rfl) (Nat.le_of_ble_eq_true rfl)
  show own_Gl _ _ _ _ _ _ _ (T5.setTop (mkF m 12 #[.val (.ref a), .val (.ref b2)] []))
  refine own_st (fun _ k => XS.aloadN X5.here hx rfl (hb hby own_d_prog_78_method_2_code_12) rfl rfl k) ?_
  show own_Gl _ _ _ _ _ _ _ (T5.setTop (mkF m 13 #[.val (.ref a), .val (.ref b2)] [(.ref a)]))
  refine own_st (fun _ k => XS.iconst X5.here hx rfl (hb hby own_d_prog_78_method_2_code_13) k) ?_
  show own_Gl _ _ _ _ _ _ _ (T5.setTop (mkF m 14 #[.val (.ref a), .val (.ref b2)] [(.int (0 : Int32)), (.ref a)]))
  refine own_st (fun _ k => XS.aloadN X5.here hx rfl (hb hby own_d_prog_78_method_2_code_14) rfl rfl k) ?_
  show own_Gl _ _ _ _ _ _ _ (T5.setTop (mkF m 15 #[.val (.ref a), .val (.ref b2)] [(.ref b2), (.int (0 : Int32)), (.ref a)]))
  refine own_st (fun _ k => XS.iconst X5.here hx rfl (hb hby own_d_prog_78_method_2_code_15) k) ?_
  show own_Gl _ _ _ _ _ _ _ (T5.setTop (mkF m 16 #[.val (.ref a), .val (.ref b2)] [(.int (1 : Int32)), (.ref b2), (.int (0 : Int32)), (.ref a)]))
  refine own_st (fun _ k => XS.aloadN X5.here hx rfl (hb hby own_d_prog_78_method_2_code_16) rfl rfl k) ?_
  show own_Gl _ _ _ _ _ _ _ (T5.setTop (mkF m 17 #[.val (.ref a), .val (.ref b2)] [(.ref a), (.int (1 : Int32)), (.ref b2), (.int (0 : Int32)), (.ref a)]))
  have f7 := ((V_a.ext E2).other W5 ne_a_b2)
  obtain ⟨cl8, Ar8, qq8, Ss8, Nn8, Hh8, Gg8⟩ := id f7
  refine own_st (X5.arraylength hx (by rw [e5]; exact Ar8.1) (State.isArrayOf_alike hZ.alike Ar8.2.1) (g := (mkF m 17 #[.val (.ref a), .val (.ref b2)] [(.ref a), (.int (1 : Int32)), (.ref b2), (.int (0 : Int32)), (.ref a)])) rfl rfl (hb hby own_d_prog_78_method_2_code_17)) ?_
  rw [len_of Ss8 Nn8]
  show own_Gl _ _ _ _ _ _ _ (T5.setTop (mkF m 18 #[.val (.ref a), .val (.ref b2)] [(.int (2 : Int32)), (.int (1 : Int32)), (.ref b2), (.int (0 : Int32)), (.ref a)]))
  obtain ⟨T9, h9, L9, X9, e9, N9, K9, Vc9, st9⟩ := cpA X5 hx hZ hown (hw _ (List.mem_of_getElem? (i := 6) rfl)) (hw _ (List.mem_of_getElem? (i := 9) rfl)) (hw _ (List.mem_of_getElem? (i := 7) rfl)) (hw _ (List.mem_of_getElem? (i := 8) rfl)) e5 f7 Vw5 (Or.inl ⟨rfl, rfl⟩) (us := [(.int v0), (.int v1)]) (by decide) (by decide) (by decide) (by decide) (by decide) rfl (Nat.le_of_ble_eq_true rfl) N5 g_b2 (g := (mkF m 18 #[.val (.ref a), .val (.ref b2)] [(.int (2 : Int32)), (.int (1 : Int32)), (.ref b2), (.int (0 : Int32)), (.ref a)])) rfl (by rw [hml]; rfl) rfl (hb hby own_d_prog_78_method_2_code_18) (by decide) (W := 0) (by show 2 * 0 + _ ≤ _; exact Nat.le_of_eq rfl) (by decide)
  refine own_st st9 ?_
  have Zs10 : n0 ≤ h9.size := Nat.le_trans Zs6 K9.1
  have Vd9 : Arv Z h9 b2 k2 .byte (5 : Int32) [(.int (nar .byte (11 : Int32))), (.int v0), (.int v1), (.int (0 : Int32)), (.int (0 : Int32))] (.int (0 : Int32)) := Vc9
  show own_Gl _ _ _ _ _ _ _ (T9.setTop (mkF m 21 #[.val (.ref a), .val (.ref b2)] []))
  refine own_st (fun _ k => XS.aloadN X9.here hx rfl (hb hby own_d_prog_78_method_2_code_21) rfl rfl k) ?_
  show own_Gl _ _ _ _ _ _ _ (T9.setTop (mkF m 22 #[.val (.ref a), .val (.ref b2)] [(.ref b2)]))
  refine own_st (fun _ k => XS.aloadN X9.here hx rfl (hb hby own_d_prog_78_method_2_code_22) rfl rfl k) ?_
  show own_Gl _ _ _ _ _ _ _ (T9.setTop (mkF m 23 #[.val (.ref a), .val (.ref b2)] [(.ref a), (.ref b2)]))
  have f11 := (f7.keep K9 (ninS ne_a_b2 nin0))
  obtain ⟨cl12, Ar12, qq12, Ss12, Nn12, Hh12, Gg12⟩ := id f11
  refine own_st (X9.arraylength hx (by rw [e9]; exact Ar12.1) (State.isArrayOf_alike hZ.alike Ar12.2.1) (g := (mkF m 23 #[.val (.ref a), .val (.ref b2)] [(.ref a), (.ref b2)])) rfl rfl (hb hby own_d_prog_78_method_2_code_23)) ?_
  rw [len_of Ss12 Nn12]
  show own_Gl _ _ _ _ _ _ _ (T9.setTop (mkF m 24 #[.val (.ref a), .val (.ref b2)] [(.int (2 : Int32)), (.ref b2)]))
  refine own_st (fun _ k => XS.iconst X9.here hx rfl (hb hby own_d_prog_78_method_2_code_24) k) ?_
  show own_Gl _ _ _ _ _ _ _ (T9.setTop (mkF m 25 #[.val (.ref a), .val (.ref b2)] [(.int (1 : Int32)), (.int (2 : Int32)), (.ref b2)]))
  refine own_st (fun _ k => XS.iadd X9.here hx rfl (hb hby own_d_prog_78_method_2_code_25) rfl k) ?_
  show own_Gl _ _ _ _ _ _ _ (T9.setTop (mkF m 26 #[.val (.ref a), .val (.ref b2)] [(.int (3 : Int32)), (.ref b2)]))
  refine own_st (fun _ k => XS.bipush X9.here hx rfl (hb hby own_d_prog_78_method_2_code_26) k) ?_
  show own_Gl _ _ _ _ _ _ _ (T9.setTop (mkF m 28 #[.val (.ref a), .val (.ref b2)] [(.int (28 : Int32)), (.int (3 : Int32)), (.ref b2)]))
  obtain ⟨cl13, Ar13, qq13, Ss13, Nn13, Hh13, Gg13⟩ := id Vd9
  have hin13 : ¬ ((3 : Int32) < 0 ∨ cl13.slots.size ≤ ((3 : Int32)).toNatClampNeg) := inb_of Ss13 ⟨by decide, by decide⟩
  obtain ⟨T13, h13, X13, e13, W13, st13⟩ := stB X9 hx hZ e9 Ar13 (j := (3 : Int32)) hin13 (g := (mkF m 28 #[.val (.ref a), .val (.ref b2)] [(.int (28 : Int32)), (.int (3 : Int32)), (.ref b2)])) rfl rfl (hb hby own_d_prog_78_method_2_code_28)
  have N13 := Fr.snoc X13 N9 g_b2
  refine own_st st13 ?_
  have Zs14 : n0 ≤ h13.size := Nat.le_trans Zs10 (Keep.of_wr W13).1
  have Vw13 : Arv Z h13 b2 k2 .byte (5 : Int32) [(.int (nar .byte (11 : Int32))), (.int v0), (.int v1), (.int (nar .byte (28 : Int32))), (.int (0 : Int32))] (.int (0 : Int32)) := Arv.set Ar13 qq13 Ss13 Nn13 Hh13 Gg13 (fits_nar_byte _) W13 3 (rfl) (Nat.le_of_ble_eq_true rfl)
  show own_Gl _ _ _ _ _ _ _ (T13.setTop (mkF m 29 #[.val (.ref a), .val (.ref b2)] []))
  refine own_st (fun _ k => XS.aloadN X13.here hx rfl (hb hby own_d_prog_78_method_2_code_29) rfl rfl k) ?_
  show own_Gl _ _ _ _ _ _ _ (T13.setTop (mkF m 30 #[.val (.ref a), .val (.ref b2)] [(.ref b2)]))
  refine own_st (fun _ k => XS.aloadN X13.here hx rfl (hb hby own_d_prog_78_method_2_code_30) rfl rfl k) ?_
  show own_Gl _ _ _ _ _ _ _ (T13.setTop (mkF m 31 #[.val (.ref a), .val (.ref b2)] [(.ref a), (.ref b2)]))
  have f15 := (f11.other W13 ne_a_b2)
  obtain ⟨cl16, Ar16, qq16, Ss16, Nn16, Hh16, Gg16⟩ := id f15
  refine own_st (X13.arraylength hx (by rw [e13]; exact Ar16.1) (State.isArrayOf_alike hZ.alike Ar16.2.1) (g := (mkF m 31 #[.val (.ref a), .val (.ref b2)] [(.ref a), (.ref b2)])) rfl rfl (hb hby own_d_prog_78_method_2_code_31)) ?_
  rw [len_of Ss16 Nn16]
  show own_Gl _ _ _ _ _ _ _ (T13.setTop (mkF m 32 #[.val (.ref a), .val (.ref b2)] [(.int (2 : Int32)), (.ref b2)]))
  refine own_st (fun _ k => XS.iconst X13.here hx rfl (hb hby own_d_prog_78_method_2_code_32) k) ?_
  show own_Gl _ _ _ _ _ _ _ (T13.setTop (mkF m 33 #[.val (.ref a), .val (.ref b2)] [(.int (2 : Int32)), (.int (2 : Int32)), (.ref b2)]))
  refine own_st (fun _ k => XS.iadd X13.here hx rfl (hb hby own_d_prog_78_method_2_code_33) rfl k) ?_
  show own_Gl _ _ _ _ _ _ _ (T13.setTop (mkF m 34 #[.val (.ref a), .val (.ref b2)] [(.int (4 : Int32)), (.ref b2)]))
  refine own_st (fun _ k => XS.bipush X13.here hx rfl (hb hby own_d_prog_78_method_2_code_34) k) ?_
  show own_Gl _ _ _ _ _ _ _ (T13.setTop (mkF m 36 #[.val (.ref a), .val (.ref b2)] [(.int (13 : Int32)), (.int (4 : Int32)), (.ref b2)]))
  obtain ⟨cl17, Ar17, qq17, Ss17, Nn17, Hh17, Gg17⟩ := id Vw13
  have hin17 : ¬ ((4 : Int32) < 0 ∨ cl17.slots.size ≤ ((4 : Int32)).toNatClampNeg) := inb_of Ss17 ⟨by decide, by decide⟩
  obtain ⟨T17, h17, X17, e17, W17, st17⟩ := stB X13 hx hZ e13 Ar17 (j := (4 : Int32)) hin17 (g := (mkF m 36 #[.val (.ref a), .val (.ref b2)] [(.int (13 : Int32)), (.int (4 : Int32)), (.ref b2)])) rfl rfl (hb hby own_d_prog_78_method_2_code_36)
  have N17 := Fr.snoc X17 N13 g_b2
  refine own_st st17 ?_
  have Zs18 : n0 ≤ h17.size := Nat.le_trans Zs14 (Keep.of_wr W17).1
  have Vw17 : Arv Z h17 b2 k2 .byte (5 : Int32) [(.int (nar .byte (11 : Int32))), (.int v0), (.int v1), (.int (nar .byte (28 : Int32))), (.int (nar .byte (13 : Int32)))] (.int (0 : Int32)) := Arv.set Ar17 qq17 Ss17 Nn17 Hh17 Gg17 (fits_nar_byte _) W17 4 (rfl) (Nat.le_of_ble_eq_true rfl)
  show own_Gl _ _ _ _ _ _ _ (T17.setTop (mkF m 37 #[.val (.ref a), .val (.ref b2)] []))
  refine own_st (fun _ k => XS.aloadN X17.here hx rfl (hb hby own_d_prog_78_method_2_code_37) rfl rfl k) ?_
  show own_Gl _ _ _ _ _ _ _ (T17.setTop (mkF m 38 #[.val (.ref a), .val (.ref b2)] [(.ref b2)]))
  have K19 : Keep h0 h17 [] := ((((((Keep.refl h0 []).ext E2).wr W5 (Or.inr gh_b2)).trans K9 (allS (Or.inr gh_b2) all0)).wr W13 (Or.inr gh_b2)).wr W17 (Or.inr gh_b2))
  exact own_retA X17 hx hlk hret rfl rfl rfl (hb hby own_d_prog_78_method_2_code_38) e17 ⟨b2, k2, rfl, N17, K19, g_b2, gh_b2, Vw17⟩ (by decide) (by decide)
theorem own_ef_own_frame3 (m : MethodId) (x0 : Addr) : entryFrame m #[(.ref x0)] 2 = mkF m 0 #[.val (.ref x0), .unset] [] := by first | (simp [entryFrame, mkF, argsToLocals, Value.category]; done) | rfl
def own_Q_own_frame3 (Z : State) (a : Addr) (k : ClassId) (v0 : Int32) (v1 : Int32) (v2 : Int32) (h0 : Heap) (n0 : Nat) (v : Option Value) (h : Heap) (L : List Loc) : Prop := ∃ (r : Addr) (kr : ClassId), (v = some (.ref r)) ∧ (Fr n0 L) ∧ (Keep h0 h []) ∧ (n0 ≤ r) ∧ (h0.size ≤ r) ∧ (Arv Z h r kr .byte (6 : Int32) [(.int (nar .byte (11 : Int32))), (.int v0), (.int v1), (.int v2), (.int (nar .byte (28 : Int32))), (.int (nar .byte (13 : Int32)))] (.int (0 : Int32)))
set_option maxRecDepth 65536 in
set_option maxHeartbeats 40000000 in
theorem own_frame3 (l : Launch) (Z : State) (a0 : Array Value) (hw : ∀ d ∈ tables_1, d.before a0 Z = true) (ws : List Jvm.Cond) (a : Addr) (k : ClassId) (v0 : Int32) (v1 : Int32) (v2 : Int32) (h0 : Heap) (n0 : Nat) (Z0 : n0 ≤ h0.size) (V_a : Arv Z h0 a k .byte (3 : Int32) [(.int v0), (.int v1), (.int v2)] (.int (0 : Int32))) :
    MetFree l (⟨"com/example/assayline/assayline/protocol/Mllp", "frame", "([B)[B"⟩ : MethodName) (head1 (Jvm.Cond.code (⟨"com/example/assayline/assayline/protocol/Mllp", "frame", "([B)[B"⟩ : MethodName) prog_78_method_2_code 2 (some (.array .byte)) :: ws) ({ frames := 1, cells := 1, slots := 6, locals := 18 } : Room)) (fun xa xU => xa = #[(.ref a)] ∧ Z.Warmed39 xU.vm ∧ xU.heap = h0) (fun _ _ _ _ _ => True) (fun _ xU xo xV => ∃ v L, xo = .returned v ∧ own_Q_own_frame3 Z a k v0 v1 v2 h0 n0 v xV.heap L ∧ FrameEnd xU xo xV L ({ frames := 1, cells := 1, slots := 6, locals := 18 } : Room).cells ({ frames := 1, cells := 1, slots := 6, locals := 18 } : Room).slots) := by
  refine MetFree.of_bodySF (plainFor_of_name own_pn792730792) hisR ?_
  intro p e s m args below meth c s₁ Bd hml0 hP hK
  obtain ⟨rfl, hZ, hh⟩ := hP
  have hx := Bd.exec
  have hby := Bd.bytes
  have hlk := Bd.notSynchronized
  have hret := Bd.returns
  have hml : c.maxLocals = 2 := hml0
  have hown : s.vm.findClass "com/example/assayline/assayline/protocol/Mllp" = some m.cls := findClass_of_methodNamed Bd.named
  have hnm := (name_of_methodNamed Bd.named Bd.method).1
  have X0 : Stand p l e ({ frames := 1, cells := 1, slots := 6, locals := 18 } : Room) s m #[(.ref a)] below meth c s₁ [] 0 0 := Stand.of_body Bd
  have e0 : s₁.heap = h0 := by rw [← hh, Bd.state]; rfl
  have N0 := Fr.nil n0
  show own_Gl p e below s (own_Q_own_frame3 Z a k v0 v1 v2 h0 n0) ({ frames := 1, cells := 1, slots := 6, locals := 18 } : Room).cells ({ frames := 1, cells := 1, slots := 6, locals := 18 } : Room).slots _
  refine own_cast (own_ef_own_frame3 m a) ?_
  show own_Gl _ _ _ _ _ _ _ (s₁.setTop (mkF m 0 #[.val (.ref a), .unset] []))
  refine own_st (fun _ k => XS.aloadN X0.here hx rfl (hb hby own_d_prog_78_method_2_code_0) rfl rfl k) ?_
  show own_Gl _ _ _ _ _ _ _ (s₁.setTop (mkF m 1 #[.val (.ref a), .unset] [(.ref a)]))
  obtain ⟨cl1, Ar1, qq1, Ss1, Nn1, Hh1, Gg1⟩ := id V_a
  refine own_st (X0.arraylength hx (by rw [e0]; exact Ar1.1) (State.isArrayOf_alike hZ.alike Ar1.2.1) (g := (mkF m 1 #[.val (.ref a), .unset] [(.ref a)])) rfl rfl (hb hby own_d_prog_78_method_2_code_1)) ?_
  rw [len_of Ss1 Nn1]
  show own_Gl _ _ _ _ _ _ _ (s₁.setTop (mkF m 2 #[.val (.ref a), .unset] [(.int (3 : Int32))]))
  refine own_st (fun _ k => XS.iconst X0.here hx rfl (hb hby own_d_prog_78_method_2_code_2) k) ?_
  show own_Gl _ _ _ _ _ _ _ (s₁.setTop (mkF m 3 #[.val (.ref a), .unset] [(.int (3 : Int32)), (.int (3 : Int32))]))
  refine own_st (fun _ k => XS.iadd X0.here hx rfl (hb hby own_d_prog_78_method_2_code_3) rfl k) ?_
  show own_Gl _ _ _ _ _ _ _ (s₁.setTop (mkF m 4 #[.val (.ref a), .unset] [(.int (6 : Int32))]))
  obtain ⟨T2, h2, k2, X2, e2, E2, A2, st2⟩ := newP X0 hx hZ (hw _ (List.mem_of_getElem? (i := 1) rfl)) e0 (g := (mkF m 4 #[.val (.ref a), .unset] [(.int (6 : Int32))])) rfl (hb hby own_d_prog_78_method_2_code_4) rfl (by decide) (cap := 6) (by decide) (by decide) (by decide) (by decide)
  obtain ⟨b2, gb2⟩ : ∃ z, z = h0.size := ⟨_, rfl⟩
  rw [← gb2] at A2 st2
  refine own_st st2 ?_
  have Zs3 : n0 ≤ h2.size := Nat.le_trans Z0 E2.1
  have g_b2 : n0 ≤ b2 := Nat.le_trans Z0 (Nat.le_of_eq gb2.symm)
  have gh_b2 : h0.size ≤ b2 := Nat.le_trans (Keep.refl h0 []).1 (Nat.le_of_eq gb2.symm)
  have ne_a_b2 : a ≠ b2 := Nat.ne_of_lt (Nat.lt_of_lt_of_le V_a.lt (Nat.le_of_eq gb2.symm))
  have V_b2 : Arv Z h2 b2 k2 .byte (6 : Int32) [(.int (0 : Int32)), (.int (0 : Int32)), (.int (0 : Int32)), (.int (0 : Int32)), (.int (0 : Int32)), (.int (0 : Int32))] (.int (0 : Int32)) := (Arv.new A2 (by decide)).pad (pad_rep [] (.int (0 : Int32)) 6)
  show own_Gl _ _ _ _ _ _ _ (T2.setTop (mkF m 6 #[.val (.ref a), .unset] [(.ref b2)]))
  refine own_st (fun _ k => XS.astoreN X2.here hx rfl (hb hby own_d_prog_78_method_2_code_6) rfl rfl (l' := #[.val (.ref a), .val (.ref b2)]) rfl k) ?_
  show own_Gl _ _ _ _ _ _ _ (T2.setTop (mkF m 7 #[.val (.ref a), .val (.ref b2)] []))
  refine own_st (fun _ k => XS.aloadN X2.here hx rfl (hb hby own_d_prog_78_method_2_code_7) rfl rfl k) ?_
  show own_Gl _ _ _ _ _ _ _ (T2.setTop (mkF m 8 #[.val (.ref a), .val (.ref b2)] [(.ref b2)]))
  refine own_st (fun _ k => XS.iconst X2.here hx rfl (hb hby own_d_prog_78_method_2_code_8) k) ?_
  show own_Gl _ _ _ _ _ _ _ (T2.setTop (mkF m 9 #[.val (.ref a), .val (.ref b2)] [(.int (0 : Int32)), (.ref b2)]))
  refine own_st (fun _ k => XS.bipush X2.here hx rfl (hb hby own_d_prog_78_method_2_code_9) k) ?_
  show own_Gl _ _ _ _ _ _ _ (T2.setTop (mkF m 11 #[.val (.ref a), .val (.ref b2)] [(.int (11 : Int32)), (.int (0 : Int32)), (.ref b2)]))
  obtain ⟨cl5, Ar5, qq5, Ss5, Nn5, Hh5, Gg5⟩ := id V_b2
  have hin5 : ¬ ((0 : Int32) < 0 ∨ cl5.slots.size ≤ ((0 : Int32)).toNatClampNeg) := inb_of Ss5 ⟨by decide, by decide⟩
  obtain ⟨T5, h5, X5, e5, W5, st5⟩ := stB X2 hx hZ e2 Ar5 (j := (0 : Int32)) hin5 (g := (mkF m 11 #[.val (.ref a), .val (.ref b2)] [(.int (11 : Int32)), (.int (0 : Int32)), (.ref b2)])) rfl rfl (hb hby own_d_prog_78_method_2_code_11)
  have N5 := Fr.snoc X5 N0 g_b2
  refine own_st st5 ?_
  have Zs6 : n0 ≤ h5.size := Nat.le_trans Zs3 (Keep.of_wr W5).1
  have Vw5 : Arv Z h5 b2 k2 .byte (6 : Int32) [(.int (nar .byte (11 : Int32))), (.int (0 : Int32)), (.int (0 : Int32)), (.int (0 : Int32)), (.int (0 : Int32)), (.int (0 : Int32))] (.int (0 : Int32)) := Arv.set Ar5 qq5 Ss5 Nn5 Hh5 Gg5 (fits_nar_byte _) W5 0 (rfl) (Nat.le_of_ble_eq_true rfl)
  show own_Gl _ _ _ _ _ _ _ (T5.setTop (mkF m 12 #[.val (.ref a), .val (.ref b2)] []))
  refine own_st (fun _ k => XS.aloadN X5.here hx rfl (hb hby own_d_prog_78_method_2_code_12) rfl rfl k) ?_
  show own_Gl _ _ _ _ _ _ _ (T5.setTop (mkF m 13 #[.val (.ref a), .val (.ref b2)] [(.ref a)]))
  refine own_st (fun _ k => XS.iconst X5.here hx rfl (hb hby own_d_prog_78_method_2_code_13) k) ?_
  show own_Gl _ _ _ _ _ _ _ (T5.setTop (mkF m 14 #[.val (.ref a), .val (.ref b2)] [(.int (0 : Int32)), (.ref a)]))
  refine own_st (fun _ k => XS.aloadN X5.here hx rfl (hb hby own_d_prog_78_method_2_code_14) rfl rfl k) ?_
  show own_Gl _ _ _ _ _ _ _ (T5.setTop (mkF m 15 #[.val (.ref a), .val (.ref b2)] [(.ref b2), (.int (0 : Int32)), (.ref a)]))
  refine own_st (fun _ k => XS.iconst X5.here hx rfl (hb hby own_d_prog_78_method_2_code_15) k) ?_
  show own_Gl _ _ _ _ _ _ _ (T5.setTop (mkF m 16 #[.val (.ref a), .val (.ref b2)] [(.int (1 : Int32)), (.ref b2), (.int (0 : Int32)), (.ref a)]))
  refine own_st (fun _ k => XS.aloadN X5.here hx rfl (hb hby own_d_prog_78_method_2_code_16) rfl rfl k) ?_
  show own_Gl _ _ _ _ _ _ _ (T5.setTop (mkF m 17 #[.val (.ref a), .val (.ref b2)] [(.ref a), (.int (1 : Int32)), (.ref b2), (.int (0 : Int32)), (.ref a)]))
  have f7 := ((V_a.ext E2).other W5 ne_a_b2)
  obtain ⟨cl8, Ar8, qq8, Ss8, Nn8, Hh8, Gg8⟩ := id f7
  refine own_st (X5.arraylength hx (by rw [e5]; exact Ar8.1) (State.isArrayOf_alike hZ.alike Ar8.2.1) (g := (mkF m 17 #[.val (.ref a), .val (.ref b2)] [(.ref a), (.int (1 : Int32)), (.ref b2), (.int (0 : Int32)), (.ref a)])) rfl rfl (hb hby own_d_prog_78_method_2_code_17)) ?_
  rw [len_of Ss8 Nn8]
  show own_Gl _ _ _ _ _ _ _ (T5.setTop (mkF m 18 #[.val (.ref a), .val (.ref b2)] [(.int (3 : Int32)), (.int (1 : Int32)), (.ref b2), (.int (0 : Int32)), (.ref a)]))
  obtain ⟨T9, h9, L9, X9, e9, N9, K9, Vc9, st9⟩ := cpA X5 hx hZ hown (hw _ (List.mem_of_getElem? (i := 6) rfl)) (hw _ (List.mem_of_getElem? (i := 9) rfl)) (hw _ (List.mem_of_getElem? (i := 7) rfl)) (hw _ (List.mem_of_getElem? (i := 8) rfl)) e5 f7 Vw5 (Or.inl ⟨rfl, rfl⟩) (us := [(.int v0), (.int v1), (.int v2)]) (by decide) (by decide) (by decide) (by decide) (by decide) rfl (Nat.le_of_ble_eq_true rfl) N5 g_b2 (g := (mkF m 18 #[.val (.ref a), .val (.ref b2)] [(.int (3 : Int32)), (.int (1 : Int32)), (.ref b2), (.int (0 : Int32)), (.ref a)])) rfl (by rw [hml]; rfl) rfl (hb hby own_d_prog_78_method_2_code_18) (by decide) (W := 0) (by show 2 * 0 + _ ≤ _; exact Nat.le_of_eq rfl) (by decide)
  refine own_st st9 ?_
  have Zs10 : n0 ≤ h9.size := Nat.le_trans Zs6 K9.1
  have Vd9 : Arv Z h9 b2 k2 .byte (6 : Int32) [(.int (nar .byte (11 : Int32))), (.int v0), (.int v1), (.int v2), (.int (0 : Int32)), (.int (0 : Int32))] (.int (0 : Int32)) := Vc9
  show own_Gl _ _ _ _ _ _ _ (T9.setTop (mkF m 21 #[.val (.ref a), .val (.ref b2)] []))
  refine own_st (fun _ k => XS.aloadN X9.here hx rfl (hb hby own_d_prog_78_method_2_code_21) rfl rfl k) ?_
  show own_Gl _ _ _ _ _ _ _ (T9.setTop (mkF m 22 #[.val (.ref a), .val (.ref b2)] [(.ref b2)]))
  refine own_st (fun _ k => XS.aloadN X9.here hx rfl (hb hby own_d_prog_78_method_2_code_22) rfl rfl k) ?_
  show own_Gl _ _ _ _ _ _ _ (T9.setTop (mkF m 23 #[.val (.ref a), .val (.ref b2)] [(.ref a), (.ref b2)]))
  have f11 := (f7.keep K9 (ninS ne_a_b2 nin0))
  obtain ⟨cl12, Ar12, qq12, Ss12, Nn12, Hh12, Gg12⟩ := id f11
  refine own_st (X9.arraylength hx (by rw [e9]; exact Ar12.1) (State.isArrayOf_alike hZ.alike Ar12.2.1) (g := (mkF m 23 #[.val (.ref a), .val (.ref b2)] [(.ref a), (.ref b2)])) rfl rfl (hb hby own_d_prog_78_method_2_code_23)) ?_
  rw [len_of Ss12 Nn12]
  show own_Gl _ _ _ _ _ _ _ (T9.setTop (mkF m 24 #[.val (.ref a), .val (.ref b2)] [(.int (3 : Int32)), (.ref b2)]))
  refine own_st (fun _ k => XS.iconst X9.here hx rfl (hb hby own_d_prog_78_method_2_code_24) k) ?_
  show own_Gl _ _ _ _ _ _ _ (T9.setTop (mkF m 25 #[.val (.ref a), .val (.ref b2)] [(.int (1 : Int32)), (.int (3 : Int32)), (.ref b2)]))
  refine own_st (fun _ k => XS.iadd X9.here hx rfl (hb hby own_d_prog_78_method_2_code_25) rfl k) ?_
  show own_Gl _ _ _ _ _ _ _ (T9.setTop (mkF m 26 #[.val (.ref a), .val (.ref b2)] [(.int (4 : Int32)), (.ref b2)]))
  refine own_st (fun _ k => XS.bipush X9.here hx rfl (hb hby own_d_prog_78_method_2_code_26) k) ?_
  show own_Gl _ _ _ _ _ _ _ (T9.setTop (mkF m 28 #[.val (.ref a), .val (.ref b2)] [(.int (28 : Int32)), (.int (4 : Int32)), (.ref b2)]))
  obtain ⟨cl13, Ar13, qq13, Ss13, Nn13, Hh13, Gg13⟩ := id Vd9
  have hin13 : ¬ ((4 : Int32) < 0 ∨ cl13.slots.size ≤ ((4 : Int32)).toNatClampNeg) := inb_of Ss13 ⟨by decide, by decide⟩
  obtain ⟨T13, h13, X13, e13, W13, st13⟩ := stB X9 hx hZ e9 Ar13 (j := (4 : Int32)) hin13 (g := (mkF m 28 #[.val (.ref a), .val (.ref b2)] [(.int (28 : Int32)), (.int (4 : Int32)), (.ref b2)])) rfl rfl (hb hby own_d_prog_78_method_2_code_28)
  have N13 := Fr.snoc X13 N9 g_b2
  refine own_st st13 ?_
  have Zs14 : n0 ≤ h13.size := Nat.le_trans Zs10 (Keep.of_wr W13).1
  have Vw13 : Arv Z h13 b2 k2 .byte (6 : Int32) [(.int (nar .byte (11 : Int32))), (.int v0), (.int v1), (.int v2), (.int (nar .byte (28 : Int32))), (.int (0 : Int32))] (.int (0 : Int32)) := Arv.set Ar13 qq13 Ss13 Nn13 Hh13 Gg13 (fits_nar_byte _) W13 4 (rfl) (Nat.le_of_ble_eq_true rfl)
  show own_Gl _ _ _ _ _ _ _ (T13.setTop (mkF m 29 #[.val (.ref a), .val (.ref b2)] []))
  refine own_st (fun _ k => XS.aloadN X13.here hx rfl (hb hby own_d_prog_78_method_2_code_29) rfl rfl k) ?_
  show own_Gl _ _ _ _ _ _ _ (T13.setTop (mkF m 30 #[.val (.ref a), .val (.ref b2)] [(.ref b2)]))
  refine own_st (fun _ k => XS.aloadN X13.here hx rfl (hb hby own_d_prog_78_method_2_code_30) rfl rfl k) ?_
  show own_Gl _ _ _ _ _ _ _ (T13.setTop (mkF m 31 #[.val (.ref a), .val (.ref b2)] [(.ref a), (.ref b2)]))
  have f15 := (f11.other W13 ne_a_b2)
  obtain ⟨cl16, Ar16, qq16, Ss16, Nn16, Hh16, Gg16⟩ := id f15
  refine own_st (X13.arraylength hx (by rw [e13]; exact Ar16.1) (State.isArrayOf_alike hZ.alike Ar16.2.1) (g := (mkF m 31 #[.val (.ref a), .val (.ref b2)] [(.ref a), (.ref b2)])) rfl rfl (hb hby own_d_prog_78_method_2_code_31)) ?_
  rw [len_of Ss16 Nn16]
  show own_Gl _ _ _ _ _ _ _ (T13.setTop (mkF m 32 #[.val (.ref a), .val (.ref b2)] [(.int (3 : Int32)), (.ref b2)]))
  refine own_st (fun _ k => XS.iconst X13.here hx rfl (hb hby own_d_prog_78_method_2_code_32) k) ?_
  show own_Gl _ _ _ _ _ _ _ (T13.setTop (mkF m 33 #[.val (.ref a), .val (.ref b2)] [(.int (2 : Int32)), (.int (3 : Int32)), (.ref b2)]))
  refine own_st (fun _ k => XS.iadd X13.here hx rfl (hb hby own_d_prog_78_method_2_code_33) rfl k) ?_
  show own_Gl _ _ _ _ _ _ _ (T13.setTop (mkF m 34 #[.val (.ref a), .val (.ref b2)] [(.int (5 : Int32)), (.ref b2)]))
  refine own_st (fun _ k => XS.bipush X13.here hx rfl (hb hby own_d_prog_78_method_2_code_34) k) ?_
  show own_Gl _ _ _ _ _ _ _ (T13.setTop (mkF m 36 #[.val (.ref a), .val (.ref b2)] [(.int (13 : Int32)), (.int (5 : Int32)), (.ref b2)]))
  obtain ⟨cl17, Ar17, qq17, Ss17, Nn17, Hh17, Gg17⟩ := id Vw13
  have hin17 : ¬ ((5 : Int32) < 0 ∨ cl17.slots.size ≤ ((5 : Int32)).toNatClampNeg) := inb_of Ss17 ⟨by decide, by decide⟩
  obtain ⟨T17, h17, X17, e17, W17, st17⟩ := stB X13 hx hZ e13 Ar17 (j := (5 : Int32)) hin17 (g := (mkF m 36 #[.val (.ref a), .val (.ref b2)] [(.int (13 : Int32)), (.int (5 : Int32)), (.ref b2)])) rfl rfl (hb hby own_d_prog_78_method_2_code_36)
  have N17 := Fr.snoc X17 N13 g_b2
  refine own_st st17 ?_
  have Zs18 : n0 ≤ h17.size := Nat.le_trans Zs14 (Keep.of_wr W17).1
  have Vw17 : Arv Z h17 b2 k2 .byte (6 : Int32) [(.int (nar .byte (11 : Int32))), (.int v0), (.int v1), (.int v2), (.int (nar .byte (28 : Int32))), (.int (nar .byte (13 : Int32)))] (.int (0 : Int32)) := Arv.set Ar17 qq17 Ss17 Nn17 Hh17 Gg17 (fits_nar_byte _) W17 5 (rfl) (Nat.le_of_ble_eq_true rfl)
  show own_Gl _ _ _ _ _ _ _ (T17.setTop (mkF m 37 #[.val (.ref a), .val (.ref b2)] []))
  refine own_st (fun _ k => XS.aloadN X17.here hx rfl (hb hby own_d_prog_78_method_2_code_37) rfl rfl k) ?_
  show own_Gl _ _ _ _ _ _ _ (T17.setTop (mkF m 38 #[.val (.ref a), .val (.ref b2)] [(.ref b2)]))
  have K19 : Keep h0 h17 [] := ((((((Keep.refl h0 []).ext E2).wr W5 (Or.inr gh_b2)).trans K9 (allS (Or.inr gh_b2) all0)).wr W13 (Or.inr gh_b2)).wr W17 (Or.inr gh_b2))
  exact own_retA X17 hx hlk hret rfl rfl rfl (hb hby own_d_prog_78_method_2_code_38) e17 ⟨b2, k2, rfl, N17, K19, g_b2, gh_b2, Vw17⟩ (by decide) (by decide)
theorem own_ef_own_frame4 (m : MethodId) (x0 : Addr) : entryFrame m #[(.ref x0)] 2 = mkF m 0 #[.val (.ref x0), .unset] [] := by first | (simp [entryFrame, mkF, argsToLocals, Value.category]; done) | rfl
def own_Q_own_frame4 (Z : State) (a : Addr) (k : ClassId) (v0 : Int32) (v1 : Int32) (v2 : Int32) (v3 : Int32) (h0 : Heap) (n0 : Nat) (v : Option Value) (h : Heap) (L : List Loc) : Prop := ∃ (r : Addr) (kr : ClassId), (v = some (.ref r)) ∧ (Fr n0 L) ∧ (Keep h0 h []) ∧ (n0 ≤ r) ∧ (h0.size ≤ r) ∧ (Arv Z h r kr .byte (7 : Int32) [(.int (nar .byte (11 : Int32))), (.int v0), (.int v1), (.int v2), (.int v3), (.int (nar .byte (28 : Int32))), (.int (nar .byte (13 : Int32)))] (.int (0 : Int32)))
set_option maxRecDepth 65536 in
set_option maxHeartbeats 40000000 in
theorem own_frame4 (l : Launch) (Z : State) (a0 : Array Value) (hw : ∀ d ∈ tables_1, d.before a0 Z = true) (ws : List Jvm.Cond) (a : Addr) (k : ClassId) (v0 : Int32) (v1 : Int32) (v2 : Int32) (v3 : Int32) (h0 : Heap) (n0 : Nat) (Z0 : n0 ≤ h0.size) (V_a : Arv Z h0 a k .byte (4 : Int32) [(.int v0), (.int v1), (.int v2), (.int v3)] (.int (0 : Int32))) :
    MetFree l (⟨"com/example/assayline/assayline/protocol/Mllp", "frame", "([B)[B"⟩ : MethodName) (head1 (Jvm.Cond.code (⟨"com/example/assayline/assayline/protocol/Mllp", "frame", "([B)[B"⟩ : MethodName) prog_78_method_2_code 2 (some (.array .byte)) :: ws) ({ frames := 1, cells := 1, slots := 7, locals := 18 } : Room)) (fun xa xU => xa = #[(.ref a)] ∧ Z.Warmed39 xU.vm ∧ xU.heap = h0) (fun _ _ _ _ _ => True) (fun _ xU xo xV => ∃ v L, xo = .returned v ∧ own_Q_own_frame4 Z a k v0 v1 v2 v3 h0 n0 v xV.heap L ∧ FrameEnd xU xo xV L ({ frames := 1, cells := 1, slots := 7, locals := 18 } : Room).cells ({ frames := 1, cells := 1, slots := 7, locals := 18 } : Room).slots) := by
  refine MetFree.of_bodySF (plainFor_of_name own_pn792730792) hisR ?_
  intro p e s m args below meth c s₁ Bd hml0 hP hK
  obtain ⟨rfl, hZ, hh⟩ := hP
  have hx := Bd.exec
  have hby := Bd.bytes
  have hlk := Bd.notSynchronized
  have hret := Bd.returns
  have hml : c.maxLocals = 2 := hml0
  have hown : s.vm.findClass "com/example/assayline/assayline/protocol/Mllp" = some m.cls := findClass_of_methodNamed Bd.named
  have hnm := (name_of_methodNamed Bd.named Bd.method).1
  have X0 : Stand p l e ({ frames := 1, cells := 1, slots := 7, locals := 18 } : Room) s m #[(.ref a)] below meth c s₁ [] 0 0 := Stand.of_body Bd
  have e0 : s₁.heap = h0 := by rw [← hh, Bd.state]; rfl
  have N0 := Fr.nil n0
  show own_Gl p e below s (own_Q_own_frame4 Z a k v0 v1 v2 v3 h0 n0) ({ frames := 1, cells := 1, slots := 7, locals := 18 } : Room).cells ({ frames := 1, cells := 1, slots := 7, locals := 18 } : Room).slots _
  refine own_cast (own_ef_own_frame4 m a) ?_
  show own_Gl _ _ _ _ _ _ _ (s₁.setTop (mkF m 0 #[.val (.ref a), .unset] []))
  refine own_st (fun _ k => XS.aloadN X0.here hx rfl (hb hby own_d_prog_78_method_2_code_0) rfl rfl k) ?_
  show own_Gl _ _ _ _ _ _ _ (s₁.setTop (mkF m 1 #[.val (.ref a), .unset] [(.ref a)]))
  obtain ⟨cl1, Ar1, qq1, Ss1, Nn1, Hh1, Gg1⟩ := id V_a
  refine own_st (X0.arraylength hx (by rw [e0]; exact Ar1.1) (State.isArrayOf_alike hZ.alike Ar1.2.1) (g := (mkF m 1 #[.val (.ref a), .unset] [(.ref a)])) rfl rfl (hb hby own_d_prog_78_method_2_code_1)) ?_
  rw [len_of Ss1 Nn1]
  show own_Gl _ _ _ _ _ _ _ (s₁.setTop (mkF m 2 #[.val (.ref a), .unset] [(.int (4 : Int32))]))
  refine own_st (fun _ k => XS.iconst X0.here hx rfl (hb hby own_d_prog_78_method_2_code_2) k) ?_
  show own_Gl _ _ _ _ _ _ _ (s₁.setTop (mkF m 3 #[.val (.ref a), .unset] [(.int (3 : Int32)), (.int (4 : Int32))]))
  refine own_st (fun _ k => XS.iadd X0.here hx rfl (hb hby own_d_prog_78_method_2_code_3) rfl k) ?_
  show own_Gl _ _ _ _ _ _ _ (s₁.setTop (mkF m 4 #[.val (.ref a), .unset] [(.int (7 : Int32))]))
  obtain ⟨T2, h2, k2, X2, e2, E2, A2, st2⟩ := newP X0 hx hZ (hw _ (List.mem_of_getElem? (i := 1) rfl)) e0 (g := (mkF m 4 #[.val (.ref a), .unset] [(.int (7 : Int32))])) rfl (hb hby own_d_prog_78_method_2_code_4) rfl (by decide) (cap := 7) (by decide) (by decide) (by decide) (by decide)
  obtain ⟨b2, gb2⟩ : ∃ z, z = h0.size := ⟨_, rfl⟩
  rw [← gb2] at A2 st2
  refine own_st st2 ?_
  have Zs3 : n0 ≤ h2.size := Nat.le_trans Z0 E2.1
  have g_b2 : n0 ≤ b2 := Nat.le_trans Z0 (Nat.le_of_eq gb2.symm)
  have gh_b2 : h0.size ≤ b2 := Nat.le_trans (Keep.refl h0 []).1 (Nat.le_of_eq gb2.symm)
  have ne_a_b2 : a ≠ b2 := Nat.ne_of_lt (Nat.lt_of_lt_of_le V_a.lt (Nat.le_of_eq gb2.symm))
  have V_b2 : Arv Z h2 b2 k2 .byte (7 : Int32) [(.int (0 : Int32)), (.int (0 : Int32)), (.int (0 : Int32)), (.int (0 : Int32)), (.int (0 : Int32)), (.int (0 : Int32)), (.int (0 : Int32))] (.int (0 : Int32)) := (Arv.new A2 (by decide)).pad (pad_rep [] (.int (0 : Int32)) 7)
  show own_Gl _ _ _ _ _ _ _ (T2.setTop (mkF m 6 #[.val (.ref a), .unset] [(.ref b2)]))
  refine own_st (fun _ k => XS.astoreN X2.here hx rfl (hb hby own_d_prog_78_method_2_code_6) rfl rfl (l' := #[.val (.ref a), .val (.ref b2)]) rfl k) ?_
  show own_Gl _ _ _ _ _ _ _ (T2.setTop (mkF m 7 #[.val (.ref a), .val (.ref b2)] []))
  refine own_st (fun _ k => XS.aloadN X2.here hx rfl (hb hby own_d_prog_78_method_2_code_7) rfl rfl k) ?_
  show own_Gl _ _ _ _ _ _ _ (T2.setTop (mkF m 8 #[.val (.ref a), .val (.ref b2)] [(.ref b2)]))
  refine own_st (fun _ k => XS.iconst X2.here hx rfl (hb hby own_d_prog_78_method_2_code_8) k) ?_
  show own_Gl _ _ _ _ _ _ _ (T2.setTop (mkF m 9 #[.val (.ref a), .val (.ref b2)] [(.int (0 : Int32)), (.ref b2)]))
  refine own_st (fun _ k => XS.bipush X2.here hx rfl (hb hby own_d_prog_78_method_2_code_9) k) ?_
  show own_Gl _ _ _ _ _ _ _ (T2.setTop (mkF m 11 #[.val (.ref a), .val (.ref b2)] [(.int (11 : Int32)), (.int (0 : Int32)), (.ref b2)]))
  obtain ⟨cl5, Ar5, qq5, Ss5, Nn5, Hh5, Gg5⟩ := id V_b2
  have hin5 : ¬ ((0 : Int32) < 0 ∨ cl5.slots.size ≤ ((0 : Int32)).toNatClampNeg) := inb_of Ss5 ⟨by decide, by decide⟩
  obtain ⟨T5, h5, X5, e5, W5, st5⟩ := stB X2 hx hZ e2 Ar5 (j := (0 : Int32)) hin5 (g := (mkF m 11 #[.val (.ref a), .val (.ref b2)] [(.int (11 : Int32)), (.int (0 : Int32)), (.ref b2)])) rfl rfl (hb hby own_d_prog_78_method_2_code_11)
  have N5 := Fr.snoc X5 N0 g_b2
  refine own_st st5 ?_
  have Zs6 : n0 ≤ h5.size := Nat.le_trans Zs3 (Keep.of_wr W5).1
  have Vw5 : Arv Z h5 b2 k2 .byte (7 : Int32) [(.int (nar .byte (11 : Int32))), (.int (0 : Int32)), (.int (0 : Int32)), (.int (0 : Int32)), (.int (0 : Int32)), (.int (0 : Int32)), (.int (0 : Int32))] (.int (0 : Int32)) := Arv.set Ar5 qq5 Ss5 Nn5 Hh5 Gg5 (fits_nar_byte _) W5 0 (rfl) (Nat.le_of_ble_eq_true rfl)
  show own_Gl _ _ _ _ _ _ _ (T5.setTop (mkF m 12 #[.val (.ref a), .val (.ref b2)] []))
  refine own_st (fun _ k => XS.aloadN X5.here hx rfl (hb hby own_d_prog_78_method_2_code_12) rfl rfl k) ?_
  show own_Gl _ _ _ _ _ _ _ (T5.setTop (mkF m 13 #[.val (.ref a), .val (.ref b2)] [(.ref a)]))
  refine own_st (fun _ k => XS.iconst X5.here hx rfl (hb hby own_d_prog_78_method_2_code_13) k) ?_
  show own_Gl _ _ _ _ _ _ _ (T5.setTop (mkF m 14 #[.val (.ref a), .val (.ref b2)] [(.int (0 : Int32)), (.ref a)]))
  refine own_st (fun _ k => XS.aloadN X5.here hx rfl (hb hby own_d_prog_78_method_2_code_14) rfl rfl k) ?_
  show own_Gl _ _ _ _ _ _ _ (T5.setTop (mkF m 15 #[.val (.ref a), .val (.ref b2)] [(.ref b2), (.int (0 : Int32)), (.ref a)]))
  refine own_st (fun _ k => XS.iconst X5.here hx rfl (hb hby own_d_prog_78_method_2_code_15) k) ?_
  show own_Gl _ _ _ _ _ _ _ (T5.setTop (mkF m 16 #[.val (.ref a), .val (.ref b2)] [(.int (1 : Int32)), (.ref b2), (.int (0 : Int32)), (.ref a)]))
  refine own_st (fun _ k => XS.aloadN X5.here hx rfl (hb hby own_d_prog_78_method_2_code_16) rfl rfl k) ?_
  show own_Gl _ _ _ _ _ _ _ (T5.setTop (mkF m 17 #[.val (.ref a), .val (.ref b2)] [(.ref a), (.int (1 : Int32)), (.ref b2), (.int (0 : Int32)), (.ref a)]))
  have f7 := ((V_a.ext E2).other W5 ne_a_b2)
  obtain ⟨cl8, Ar8, qq8, Ss8, Nn8, Hh8, Gg8⟩ := id f7
  refine own_st (X5.arraylength hx (by rw [e5]; exact Ar8.1) (State.isArrayOf_alike hZ.alike Ar8.2.1) (g := (mkF m 17 #[.val (.ref a), .val (.ref b2)] [(.ref a), (.int (1 : Int32)), (.ref b2), (.int (0 : Int32)), (.ref a)])) rfl rfl (hb hby own_d_prog_78_method_2_code_17)) ?_
  rw [len_of Ss8 Nn8]
  show own_Gl _ _ _ _ _ _ _ (T5.setTop (mkF m 18 #[.val (.ref a), .val (.ref b2)] [(.int (4 : Int32)), (.int (1 : Int32)), (.ref b2), (.int (0 : Int32)), (.ref a)]))
  obtain ⟨T9, h9, L9, X9, e9, N9, K9, Vc9, st9⟩ := cpA X5 hx hZ hown (hw _ (List.mem_of_getElem? (i := 6) rfl)) (hw _ (List.mem_of_getElem? (i := 9) rfl)) (hw _ (List.mem_of_getElem? (i := 7) rfl)) (hw _ (List.mem_of_getElem? (i := 8) rfl)) e5 f7 Vw5 (Or.inl ⟨rfl, rfl⟩) (us := [(.int v0), (.int v1), (.int v2), (.int v3)]) (by decide) (by decide) (by decide) (by decide) (by decide) rfl (Nat.le_of_ble_eq_true rfl) N5 g_b2 (g := (mkF m 18 #[.val (.ref a), .val (.ref b2)] [(.int (4 : Int32)), (.int (1 : Int32)), (.ref b2), (.int (0 : Int32)), (.ref a)])) rfl (by rw [hml]; rfl) rfl (hb hby own_d_prog_78_method_2_code_18) (by decide) (W := 0) (by show 2 * 0 + _ ≤ _; exact Nat.le_of_eq rfl) (by decide)
  refine own_st st9 ?_
  have Zs10 : n0 ≤ h9.size := Nat.le_trans Zs6 K9.1
  have Vd9 : Arv Z h9 b2 k2 .byte (7 : Int32) [(.int (nar .byte (11 : Int32))), (.int v0), (.int v1), (.int v2), (.int v3), (.int (0 : Int32)), (.int (0 : Int32))] (.int (0 : Int32)) := Vc9
  show own_Gl _ _ _ _ _ _ _ (T9.setTop (mkF m 21 #[.val (.ref a), .val (.ref b2)] []))
  refine own_st (fun _ k => XS.aloadN X9.here hx rfl (hb hby own_d_prog_78_method_2_code_21) rfl rfl k) ?_
  show own_Gl _ _ _ _ _ _ _ (T9.setTop (mkF m 22 #[.val (.ref a), .val (.ref b2)] [(.ref b2)]))
  refine own_st (fun _ k => XS.aloadN X9.here hx rfl (hb hby own_d_prog_78_method_2_code_22) rfl rfl k) ?_
  show own_Gl _ _ _ _ _ _ _ (T9.setTop (mkF m 23 #[.val (.ref a), .val (.ref b2)] [(.ref a), (.ref b2)]))
  have f11 := (f7.keep K9 (ninS ne_a_b2 nin0))
  obtain ⟨cl12, Ar12, qq12, Ss12, Nn12, Hh12, Gg12⟩ := id f11
  refine own_st (X9.arraylength hx (by rw [e9]; exact Ar12.1) (State.isArrayOf_alike hZ.alike Ar12.2.1) (g := (mkF m 23 #[.val (.ref a), .val (.ref b2)] [(.ref a), (.ref b2)])) rfl rfl (hb hby own_d_prog_78_method_2_code_23)) ?_
  rw [len_of Ss12 Nn12]
  show own_Gl _ _ _ _ _ _ _ (T9.setTop (mkF m 24 #[.val (.ref a), .val (.ref b2)] [(.int (4 : Int32)), (.ref b2)]))
  refine own_st (fun _ k => XS.iconst X9.here hx rfl (hb hby own_d_prog_78_method_2_code_24) k) ?_
  show own_Gl _ _ _ _ _ _ _ (T9.setTop (mkF m 25 #[.val (.ref a), .val (.ref b2)] [(.int (1 : Int32)), (.int (4 : Int32)), (.ref b2)]))
  refine own_st (fun _ k => XS.iadd X9.here hx rfl (hb hby own_d_prog_78_method_2_code_25) rfl k) ?_
  show own_Gl _ _ _ _ _ _ _ (T9.setTop (mkF m 26 #[.val (.ref a), .val (.ref b2)] [(.int (5 : Int32)), (.ref b2)]))
  refine own_st (fun _ k => XS.bipush X9.here hx rfl (hb hby own_d_prog_78_method_2_code_26) k) ?_
  show own_Gl _ _ _ _ _ _ _ (T9.setTop (mkF m 28 #[.val (.ref a), .val (.ref b2)] [(.int (28 : Int32)), (.int (5 : Int32)), (.ref b2)]))
  obtain ⟨cl13, Ar13, qq13, Ss13, Nn13, Hh13, Gg13⟩ := id Vd9
  have hin13 : ¬ ((5 : Int32) < 0 ∨ cl13.slots.size ≤ ((5 : Int32)).toNatClampNeg) := inb_of Ss13 ⟨by decide, by decide⟩
  obtain ⟨T13, h13, X13, e13, W13, st13⟩ := stB X9 hx hZ e9 Ar13 (j := (5 : Int32)) hin13 (g := (mkF m 28 #[.val (.ref a), .val (.ref b2)] [(.int (28 : Int32)), (.int (5 : Int32)), (.ref b2)])) rfl rfl (hb hby own_d_prog_78_method_2_code_28)
  have N13 := Fr.snoc X13 N9 g_b2
  refine own_st st13 ?_
  have Zs14 : n0 ≤ h13.size := Nat.le_trans Zs10 (Keep.of_wr W13).1
  have Vw13 : Arv Z h13 b2 k2 .byte (7 : Int32) [(.int (nar .byte (11 : Int32))), (.int v0), (.int v1), (.int v2), (.int v3), (.int (nar .byte (28 : Int32))), (.int (0 : Int32))] (.int (0 : Int32)) := Arv.set Ar13 qq13 Ss13 Nn13 Hh13 Gg13 (fits_nar_byte _) W13 5 (rfl) (Nat.le_of_ble_eq_true rfl)
  show own_Gl _ _ _ _ _ _ _ (T13.setTop (mkF m 29 #[.val (.ref a), .val (.ref b2)] []))
  refine own_st (fun _ k => XS.aloadN X13.here hx rfl (hb hby own_d_prog_78_method_2_code_29) rfl rfl k) ?_
  show own_Gl _ _ _ _ _ _ _ (T13.setTop (mkF m 30 #[.val (.ref a), .val (.ref b2)] [(.ref b2)]))
  refine own_st (fun _ k => XS.aloadN X13.here hx rfl (hb hby own_d_prog_78_method_2_code_30) rfl rfl k) ?_
  show own_Gl _ _ _ _ _ _ _ (T13.setTop (mkF m 31 #[.val (.ref a), .val (.ref b2)] [(.ref a), (.ref b2)]))
  have f15 := (f11.other W13 ne_a_b2)
  obtain ⟨cl16, Ar16, qq16, Ss16, Nn16, Hh16, Gg16⟩ := id f15
  refine own_st (X13.arraylength hx (by rw [e13]; exact Ar16.1) (State.isArrayOf_alike hZ.alike Ar16.2.1) (g := (mkF m 31 #[.val (.ref a), .val (.ref b2)] [(.ref a), (.ref b2)])) rfl rfl (hb hby own_d_prog_78_method_2_code_31)) ?_
  rw [len_of Ss16 Nn16]
  show own_Gl _ _ _ _ _ _ _ (T13.setTop (mkF m 32 #[.val (.ref a), .val (.ref b2)] [(.int (4 : Int32)), (.ref b2)]))
  refine own_st (fun _ k => XS.iconst X13.here hx rfl (hb hby own_d_prog_78_method_2_code_32) k) ?_
  show own_Gl _ _ _ _ _ _ _ (T13.setTop (mkF m 33 #[.val (.ref a), .val (.ref b2)] [(.int (2 : Int32)), (.int (4 : Int32)), (.ref b2)]))
  refine own_st (fun _ k => XS.iadd X13.here hx rfl (hb hby own_d_prog_78_method_2_code_33) rfl k) ?_
  show own_Gl _ _ _ _ _ _ _ (T13.setTop (mkF m 34 #[.val (.ref a), .val (.ref b2)] [(.int (6 : Int32)), (.ref b2)]))
  refine own_st (fun _ k => XS.bipush X13.here hx rfl (hb hby own_d_prog_78_method_2_code_34) k) ?_
  show own_Gl _ _ _ _ _ _ _ (T13.setTop (mkF m 36 #[.val (.ref a), .val (.ref b2)] [(.int (13 : Int32)), (.int (6 : Int32)), (.ref b2)]))
  obtain ⟨cl17, Ar17, qq17, Ss17, Nn17, Hh17, Gg17⟩ := id Vw13
  have hin17 : ¬ ((6 : Int32) < 0 ∨ cl17.slots.size ≤ ((6 : Int32)).toNatClampNeg) := inb_of Ss17 ⟨by decide, by decide⟩
  obtain ⟨T17, h17, X17, e17, W17, st17⟩ := stB X13 hx hZ e13 Ar17 (j := (6 : Int32)) hin17 (g := (mkF m 36 #[.val (.ref a), .val (.ref b2)] [(.int (13 : Int32)), (.int (6 : Int32)), (.ref b2)])) rfl rfl (hb hby own_d_prog_78_method_2_code_36)
  have N17 := Fr.snoc X17 N13 g_b2
  refine own_st st17 ?_
  have Zs18 : n0 ≤ h17.size := Nat.le_trans Zs14 (Keep.of_wr W17).1
  have Vw17 : Arv Z h17 b2 k2 .byte (7 : Int32) [(.int (nar .byte (11 : Int32))), (.int v0), (.int v1), (.int v2), (.int v3), (.int (nar .byte (28 : Int32))), (.int (nar .byte (13 : Int32)))] (.int (0 : Int32)) := Arv.set Ar17 qq17 Ss17 Nn17 Hh17 Gg17 (fits_nar_byte _) W17 6 (rfl) (Nat.le_of_ble_eq_true rfl)
  show own_Gl _ _ _ _ _ _ _ (T17.setTop (mkF m 37 #[.val (.ref a), .val (.ref b2)] []))
  refine own_st (fun _ k => XS.aloadN X17.here hx rfl (hb hby own_d_prog_78_method_2_code_37) rfl rfl k) ?_
  show own_Gl _ _ _ _ _ _ _ (T17.setTop (mkF m 38 #[.val (.ref a), .val (.ref b2)] [(.ref b2)]))
  have K19 : Keep h0 h17 [] := ((((((Keep.refl h0 []).ext E2).wr W5 (Or.inr gh_b2)).trans K9 (allS (Or.inr gh_b2) all0)).wr W13 (Or.inr gh_b2)).wr W17 (Or.inr gh_b2))
  exact own_retA X17 hx hlk hret rfl rfl rfl (hb hby own_d_prog_78_method_2_code_38) e17 ⟨b2, k2, rfl, N17, K19, g_b2, gh_b2, Vw17⟩ (by decide) (by decide)
theorem own_d_method_3_code_0 : decode method_3_code 0 = .ok (.iload_n 3, 1) := by decide +kernel
theorem own_d_method_3_code_1 : decode method_3_code 1 = .ok (.iload_n 2, 1) := by decide +kernel
theorem own_d_method_3_code_2 : decode method_3_code 2 = .ok (.if_icmp .lt 5, 3) := by decide +kernel
theorem own_d_method_3_code_5 : decode method_3_code 5 = .ok (.iconst 1, 1) := by decide +kernel
theorem own_d_method_3_code_6 : decode method_3_code 6 = .ok (.ireturn, 1) := by decide +kernel
theorem own_ef_own_slot0 (m : MethodId) (x0 : Addr) (x1 : Addr) (x2 : Int32) (x3 : Int32) (x4 : Int32) : entryFrame m #[(.ref x0), (.ref x1), (.int x2), (.int x3), (.int x4)] 6 = mkF m 0 #[.val (.ref x0), .val (.ref x1), .val (.int x2), .val (.int x3), .val (.int x4), .unset] [] := by first | (simp [entryFrame, mkF, argsToLocals, Value.category]; done) | rfl
def own_Q_own_slot0 (Z : State) (o : Addr) (g : Addr) (pn : Int32) (pi : Int32) (pb : Int32) (h0 : Heap) (n0 : Nat) (v : Option Value) (h : Heap) (L : List Loc) : Prop := (v = some (.int (1 : Int32))) ∧ (Fr n0 L) ∧ (h = h0)
theorem own_pn487933331 : plainName "com/example/assayline/assayline/protocol/MllpFramePinLaw" = true := by first | (simp [plainName, overriddenIn]; done) | decide +kernel
set_option maxRecDepth 65536 in
set_option maxHeartbeats 40000000 in
theorem own_slot0 (l : Launch) (Z : State) (a0 : Array Value) (hw : ∀ d ∈ tables_1, d.before a0 Z = true) (ws : List Jvm.Cond) (o : Addr) (g : Addr) (pn : Int32) (pi : Int32) (pb : Int32) (h0 : Heap) (n0 : Nat) (Z0 : n0 ≤ h0.size) (hge : ¬ (pi < pn)) :
    MetFree l (⟨"com/example/assayline/assayline/protocol/MllpFramePinLaw", "slot", "([B[BIII)Z"⟩ : MethodName) (head1 (Jvm.Cond.code (⟨"com/example/assayline/assayline/protocol/MllpFramePinLaw", "slot", "([B[BIII)Z"⟩ : MethodName) method_3_code 6 (some .boolean) :: ws) ({ frames := 0, cells := 0, slots := 0, locals := 0 } : Room)) (fun xa xU => xa = #[(.ref o), (.ref g), (.int pn), (.int pi), (.int pb)] ∧ Z.Warmed39 xU.vm ∧ xU.heap = h0) (fun _ _ _ _ _ => True) (fun _ xU xo xV => ∃ v L, xo = .returned v ∧ own_Q_own_slot0 Z o g pn pi pb h0 n0 v xV.heap L ∧ FrameEnd xU xo xV L ({ frames := 0, cells := 0, slots := 0, locals := 0 } : Room).cells ({ frames := 0, cells := 0, slots := 0, locals := 0 } : Room).slots) := by
  refine MetFree.of_bodySF (plainFor_of_name own_pn487933331) hisR ?_
  intro p e s m args below meth c s₁ Bd hml0 hP hK
  obtain ⟨rfl, hZ, hh⟩ := hP
  have hx := Bd.exec
  have hby := Bd.bytes
  have hlk := Bd.notSynchronized
  have hret := Bd.returns
  have hml : c.maxLocals = 6 := hml0
  have hown : s.vm.findClass "com/example/assayline/assayline/protocol/MllpFramePinLaw" = some m.cls := findClass_of_methodNamed Bd.named
  have hnm := (name_of_methodNamed Bd.named Bd.method).1
  have X0 : Stand p l e ({ frames := 0, cells := 0, slots := 0, locals := 0 } : Room) s m #[(.ref o), (.ref g), (.int pn), (.int pi), (.int pb)] below meth c s₁ [] 0 0 := Stand.of_body Bd
  have e0 : s₁.heap = h0 := by rw [← hh, Bd.state]; rfl
  have N0 := Fr.nil n0
  show own_Gl p e below s (own_Q_own_slot0 Z o g pn pi pb h0 n0) ({ frames := 0, cells := 0, slots := 0, locals := 0 } : Room).cells ({ frames := 0, cells := 0, slots := 0, locals := 0 } : Room).slots _
  refine own_cast (own_ef_own_slot0 m o g pn pi pb) ?_
  show own_Gl _ _ _ _ _ _ _ (s₁.setTop (mkF m 0 #[.val (.ref o), .val (.ref g), .val (.int pn), .val (.int pi), .val (.int pb), .unset] []))
  refine own_st (fun _ k => XS.iloadN X0.here hx rfl (hb hby own_d_method_3_code_0) rfl k) ?_
  show own_Gl _ _ _ _ _ _ _ (s₁.setTop (mkF m 1 #[.val (.ref o), .val (.ref g), .val (.int pn), .val (.int pi), .val (.int pb), .unset] [(.int pi)]))
  refine own_st (fun _ k => XS.iloadN X0.here hx rfl (hb hby own_d_method_3_code_1) rfl k) ?_
  show own_Gl _ _ _ _ _ _ _ (s₁.setTop (mkF m 2 #[.val (.ref o), .val (.ref g), .val (.int pn), .val (.int pi), .val (.int pb), .unset] [(.int pn), (.int pi)]))
  have hd1 : ¬ (pi < pn) := hge
  refine own_st (fun _ k => XS.icmpNo X0.here hx rfl (hb hby own_d_method_3_code_2) rfl (flt hd1).1 k) ?_
  show own_Gl _ _ _ _ _ _ _ (s₁.setTop (mkF m 5 #[.val (.ref o), .val (.ref g), .val (.int pn), .val (.int pi), .val (.int pb), .unset] []))
  refine own_st (fun _ k => XS.iconst X0.here hx rfl (hb hby own_d_method_3_code_5) k) ?_
  show own_Gl _ _ _ _ _ _ _ (s₁.setTop (mkF m 6 #[.val (.ref o), .val (.ref g), .val (.int pn), .val (.int pi), .val (.int pb), .unset] [(.int (1 : Int32))]))
  exact own_retN X0 hx hlk (t := .boolean) hret (by simp) (hb hby own_d_method_3_code_6) e0 ⟨rfl, N0, rfl⟩ (by decide) (by decide)
theorem own_d_method_3_code_7 : decode method_3_code 7 = .ok (.iload 4, 2) := by decide +kernel
theorem own_d_method_3_code_9 : decode method_3_code 9 = .ok (.bipush 8, 2) := by decide +kernel
theorem own_d_method_3_code_11 : decode method_3_code 11 = .ok (.iload_n 3, 1) := by decide +kernel
theorem own_d_method_3_code_12 : decode method_3_code 12 = .ok (.imul, 1) := by decide +kernel
theorem own_d_method_3_code_13 : decode method_3_code 13 = .ok (.iushr, 1) := by decide +kernel
theorem own_d_method_3_code_14 : decode method_3_code 14 = .ok (.i2b, 1) := by decide +kernel
theorem own_d_method_3_code_15 : decode method_3_code 15 = .ok (.istore 5, 2) := by decide +kernel
theorem own_d_method_3_code_17 : decode method_3_code 17 = .ok (.aload_n 0, 1) := by decide +kernel
theorem own_d_method_3_code_18 : decode method_3_code 18 = .ok (.iload_n 3, 1) := by decide +kernel
theorem own_d_method_3_code_19 : decode method_3_code 19 = .ok (.iconst 1, 1) := by decide +kernel
theorem own_d_method_3_code_20 : decode method_3_code 20 = .ok (.iadd, 1) := by decide +kernel
theorem own_d_method_3_code_21 : decode method_3_code 21 = .ok (.baload, 1) := by decide +kernel
theorem own_d_method_3_code_22 : decode method_3_code 22 = .ok (.iload 5, 2) := by decide +kernel
theorem own_d_method_3_code_24 : decode method_3_code 24 = .ok (.if_icmp .ne 15, 3) := by decide +kernel
theorem own_d_method_3_code_27 : decode method_3_code 27 = .ok (.aload_n 1, 1) := by decide +kernel
theorem own_d_method_3_code_28 : decode method_3_code 28 = .ok (.iload_n 3, 1) := by decide +kernel
theorem own_d_method_3_code_29 : decode method_3_code 29 = .ok (.baload, 1) := by decide +kernel
theorem own_d_method_3_code_30 : decode method_3_code 30 = .ok (.iload 5, 2) := by decide +kernel
theorem own_d_method_3_code_32 : decode method_3_code 32 = .ok (.if_icmp .ne 7, 3) := by decide +kernel
theorem own_d_method_3_code_35 : decode method_3_code 35 = .ok (.iconst 1, 1) := by decide +kernel
theorem own_d_method_3_code_36 : decode method_3_code 36 = .ok (.goto 4, 3) := by decide +kernel
theorem own_d_method_3_code_40 : decode method_3_code 40 = .ok (.ireturn, 1) := by decide +kernel
theorem own_ef_own_slot1 (m : MethodId) (x0 : Addr) (x1 : Addr) (x2 : Int32) (x3 : Int32) (x4 : Int32) : entryFrame m #[(.ref x0), (.ref x1), (.int x2), (.int x3), (.int x4)] 6 = mkF m 0 #[.val (.ref x0), .val (.ref x1), .val (.int x2), .val (.int x3), .val (.int x4), .unset] [] := by first | (simp [entryFrame, mkF, argsToLocals, Value.category]; done) | rfl
def own_Q_own_slot1 (Z : State) (o : Addr) (g : Addr) (pn : Int32) (pi : Int32) (pb : Int32) (ko : ClassId) (kg : ClassId) (zo : Int32) (zg : Int32) (vo : List Value) (vg : List Value) (h0 : Heap) (n0 : Nat) (v : Option Value) (h : Heap) (L : List Loc) : Prop := (v = some (.int (1 : Int32))) ∧ (Fr n0 L) ∧ (h = h0)
set_option maxRecDepth 65536 in
set_option maxHeartbeats 40000000 in
theorem own_slot1 (l : Launch) (Z : State) (a0 : Array Value) (hw : ∀ d ∈ tables_1, d.before a0 Z = true) (ws : List Jvm.Cond) (o : Addr) (g : Addr) (pn : Int32) (pi : Int32) (pb : Int32) (ko : ClassId) (kg : ClassId) (zo : Int32) (zg : Int32) (vo : List Value) (vg : List Value) (h0 : Heap) (n0 : Nat) (Z0 : n0 ≤ h0.size) (V_o : Arv Z h0 o ko .byte zo vo (.int (0 : Int32))) (V_g : Arv Z h0 g kg .byte zg vg (.int (0 : Int32))) (hlt : pi < pn) (hi1 : ¬ (pi + (1 : Int32)) < 0 ∧ (pi + (1 : Int32)) < zo) (hi2 : ¬ pi < 0 ∧ pi < zg) (hv1 : vo.getD (pi + (1 : Int32)).toNatClampNeg (.int (0 : Int32)) = .int (((pb.toUInt32 >>> (((8 : Int32) * pi) &&& 31).toUInt32).toInt32).toInt8.toInt32)) (hv2 : vg.getD pi.toNatClampNeg (.int (0 : Int32)) = .int (((pb.toUInt32 >>> (((8 : Int32) * pi) &&& 31).toUInt32).toInt32).toInt8.toInt32)) :
    MetFree l (⟨"com/example/assayline/assayline/protocol/MllpFramePinLaw", "slot", "([B[BIII)Z"⟩ : MethodName) (head1 (Jvm.Cond.code (⟨"com/example/assayline/assayline/protocol/MllpFramePinLaw", "slot", "([B[BIII)Z"⟩ : MethodName) method_3_code 6 (some .boolean) :: ws) ({ frames := 0, cells := 0, slots := 0, locals := 0 } : Room)) (fun xa xU => xa = #[(.ref o), (.ref g), (.int pn), (.int pi), (.int pb)] ∧ Z.Warmed39 xU.vm ∧ xU.heap = h0) (fun _ _ _ _ _ => True) (fun _ xU xo xV => ∃ v L, xo = .returned v ∧ own_Q_own_slot1 Z o g pn pi pb ko kg zo zg vo vg h0 n0 v xV.heap L ∧ FrameEnd xU xo xV L ({ frames := 0, cells := 0, slots := 0, locals := 0 } : Room).cells ({ frames := 0, cells := 0, slots := 0, locals := 0 } : Room).slots) := by
  refine MetFree.of_bodySF (plainFor_of_name own_pn487933331) hisR ?_
  intro p e s m args below meth c s₁ Bd hml0 hP hK
  obtain ⟨rfl, hZ, hh⟩ := hP
  have hx := Bd.exec
  have hby := Bd.bytes
  have hlk := Bd.notSynchronized
  have hret := Bd.returns
  have hml : c.maxLocals = 6 := hml0
  have hown : s.vm.findClass "com/example/assayline/assayline/protocol/MllpFramePinLaw" = some m.cls := findClass_of_methodNamed Bd.named
  have hnm := (name_of_methodNamed Bd.named Bd.method).1
  have X0 : Stand p l e ({ frames := 0, cells := 0, slots := 0, locals := 0 } : Room) s m #[(.ref o), (.ref g), (.int pn), (.int pi), (.int pb)] below meth c s₁ [] 0 0 := Stand.of_body Bd
  have e0 : s₁.heap = h0 := by rw [← hh, Bd.state]; rfl
  have N0 := Fr.nil n0
  show own_Gl p e below s (own_Q_own_slot1 Z o g pn pi pb ko kg zo zg vo vg h0 n0) ({ frames := 0, cells := 0, slots := 0, locals := 0 } : Room).cells ({ frames := 0, cells := 0, slots := 0, locals := 0 } : Room).slots _
  refine own_cast (own_ef_own_slot1 m o g pn pi pb) ?_
  show own_Gl _ _ _ _ _ _ _ (s₁.setTop (mkF m 0 #[.val (.ref o), .val (.ref g), .val (.int pn), .val (.int pi), .val (.int pb), .unset] []))
  refine own_st (fun _ k => XS.iloadN X0.here hx rfl (hb hby own_d_method_3_code_0) rfl k) ?_
  show own_Gl _ _ _ _ _ _ _ (s₁.setTop (mkF m 1 #[.val (.ref o), .val (.ref g), .val (.int pn), .val (.int pi), .val (.int pb), .unset] [(.int pi)]))
  refine own_st (fun _ k => XS.iloadN X0.here hx rfl (hb hby own_d_method_3_code_1) rfl k) ?_
  show own_Gl _ _ _ _ _ _ _ (s₁.setTop (mkF m 2 #[.val (.ref o), .val (.ref g), .val (.int pn), .val (.int pi), .val (.int pb), .unset] [(.int pn), (.int pi)]))
  have hd1 : pi < pn := hlt
  refine own_st (fun _ k => XS.icmpYes X0.here hx rfl (pc0 := 2) (pc' := 7) rfl (hb hby own_d_method_3_code_2) rfl (tlt hd1).1 (by decide) (by decide) k) ?_
  show own_Gl _ _ _ _ _ _ _ (s₁.setTop (mkF m 7 #[.val (.ref o), .val (.ref g), .val (.int pn), .val (.int pi), .val (.int pb), .unset] []))
  refine own_st (fun _ k => XS.iload X0.here hx rfl (hb hby own_d_method_3_code_7) rfl k) ?_
  show own_Gl _ _ _ _ _ _ _ (s₁.setTop (mkF m 9 #[.val (.ref o), .val (.ref g), .val (.int pn), .val (.int pi), .val (.int pb), .unset] [(.int pb)]))
  refine own_st (fun _ k => XS.bipush X0.here hx rfl (hb hby own_d_method_3_code_9) k) ?_
  show own_Gl _ _ _ _ _ _ _ (s₁.setTop (mkF m 11 #[.val (.ref o), .val (.ref g), .val (.int pn), .val (.int pi), .val (.int pb), .unset] [(.int (8 : Int32)), (.int pb)]))
  refine own_st (fun _ k => XS.iloadN X0.here hx rfl (hb hby own_d_method_3_code_11) rfl k) ?_
  show own_Gl _ _ _ _ _ _ _ (s₁.setTop (mkF m 12 #[.val (.ref o), .val (.ref g), .val (.int pn), .val (.int pi), .val (.int pb), .unset] [(.int pi), (.int (8 : Int32)), (.int pb)]))
  refine own_st (fun _ k => XS.imul X0.here hx rfl (hb hby own_d_method_3_code_12) rfl k) ?_
  show own_Gl _ _ _ _ _ _ _ (s₁.setTop (mkF m 13 #[.val (.ref o), .val (.ref g), .val (.int pn), .val (.int pi), .val (.int pb), .unset] [(.int ((8 : Int32) * pi)), (.int pb)]))
  refine own_st (fun _ k => XS.iushr X0.here hx rfl (hb hby own_d_method_3_code_13) rfl k) ?_
  show own_Gl _ _ _ _ _ _ _ (s₁.setTop (mkF m 14 #[.val (.ref o), .val (.ref g), .val (.int pn), .val (.int pi), .val (.int pb), .unset] [(.int ((pb.toUInt32 >>> (((8 : Int32) * pi) &&& 31).toUInt32).toInt32))]))
  refine own_st (fun _ k => XS.i2b X0.here hx rfl (hb hby own_d_method_3_code_14) rfl k) ?_
  show own_Gl _ _ _ _ _ _ _ (s₁.setTop (mkF m 15 #[.val (.ref o), .val (.ref g), .val (.int pn), .val (.int pi), .val (.int pb), .unset] [(.int (((pb.toUInt32 >>> (((8 : Int32) * pi) &&& 31).toUInt32).toInt32).toInt8.toInt32))]))
  refine own_st (fun _ k => XS.istore X0.here hx rfl (hb hby own_d_method_3_code_15) rfl (l' := #[.val (.ref o), .val (.ref g), .val (.int pn), .val (.int pi), .val (.int pb), .val (.int (((pb.toUInt32 >>> (((8 : Int32) * pi) &&& 31).toUInt32).toInt32).toInt8.toInt32))]) rfl k) ?_
  show own_Gl _ _ _ _ _ _ _ (s₁.setTop (mkF m 17 #[.val (.ref o), .val (.ref g), .val (.int pn), .val (.int pi), .val (.int pb), .val (.int (((pb.toUInt32 >>> (((8 : Int32) * pi) &&& 31).toUInt32).toInt32).toInt8.toInt32))] []))
  refine own_st (fun _ k => XS.aloadN X0.here hx rfl (hb hby own_d_method_3_code_17) rfl rfl k) ?_
  show own_Gl _ _ _ _ _ _ _ (s₁.setTop (mkF m 18 #[.val (.ref o), .val (.ref g), .val (.int pn), .val (.int pi), .val (.int pb), .val (.int (((pb.toUInt32 >>> (((8 : Int32) * pi) &&& 31).toUInt32).toInt32).toInt8.toInt32))] [(.ref o)]))
  refine own_st (fun _ k => XS.iloadN X0.here hx rfl (hb hby own_d_method_3_code_18) rfl k) ?_
  show own_Gl _ _ _ _ _ _ _ (s₁.setTop (mkF m 19 #[.val (.ref o), .val (.ref g), .val (.int pn), .val (.int pi), .val (.int pb), .val (.int (((pb.toUInt32 >>> (((8 : Int32) * pi) &&& 31).toUInt32).toInt32).toInt8.toInt32))] [(.int pi), (.ref o)]))
  refine own_st (fun _ k => XS.iconst X0.here hx rfl (hb hby own_d_method_3_code_19) k) ?_
  show own_Gl _ _ _ _ _ _ _ (s₁.setTop (mkF m 20 #[.val (.ref o), .val (.ref g), .val (.int pn), .val (.int pi), .val (.int pb), .val (.int (((pb.toUInt32 >>> (((8 : Int32) * pi) &&& 31).toUInt32).toInt32).toInt8.toInt32))] [(.int (1 : Int32)), (.int pi), (.ref o)]))
  refine own_st (fun _ k => XS.iadd X0.here hx rfl (hb hby own_d_method_3_code_20) rfl k) ?_
  show own_Gl _ _ _ _ _ _ _ (s₁.setTop (mkF m 21 #[.val (.ref o), .val (.ref g), .val (.int pn), .val (.int pi), .val (.int pb), .val (.int (((pb.toUInt32 >>> (((8 : Int32) * pi) &&& 31).toUInt32).toInt32).toInt8.toInt32))] [(.int (pi + (1 : Int32))), (.ref o)]))
  obtain ⟨cl2, Ar2, qq2, Ss2, Nn2, Hh2, Gg2⟩ := id V_o
  have hin2 : ¬ ((pi + (1 : Int32)) < 0 ∨ cl2.slots.size ≤ ((pi + (1 : Int32))).toNatClampNeg) := inb_of Ss2 hi1
  have hat2 : cl2.slots[((pi + (1 : Int32))).toNatClampNeg]? = some (.int (((pb.toUInt32 >>> (((8 : Int32) * pi) &&& 31).toUInt32).toInt32).toInt8.toInt32)) := Hh2.at hin2 (hv1)
  refine own_st (X0.baloadBytes hx (j := (pi + (1 : Int32))) (v := (.int (((pb.toUInt32 >>> (((8 : Int32) * pi) &&& 31).toUInt32).toInt32).toInt8.toInt32))) (by rw [e0]; exact Ar2.1) (State.isArrayOf_alike hZ.alike Ar2.2.1) Ar2.2.2 hin2 hat2 (g := (mkF m 21 #[.val (.ref o), .val (.ref g), .val (.int pn), .val (.int pi), .val (.int pb), .val (.int (((pb.toUInt32 >>> (((8 : Int32) * pi) &&& 31).toUInt32).toInt32).toInt8.toInt32))] [(.int (pi + (1 : Int32))), (.ref o)])) rfl rfl (hb hby own_d_method_3_code_21)) ?_
  show own_Gl _ _ _ _ _ _ _ (s₁.setTop (mkF m 22 #[.val (.ref o), .val (.ref g), .val (.int pn), .val (.int pi), .val (.int pb), .val (.int (((pb.toUInt32 >>> (((8 : Int32) * pi) &&& 31).toUInt32).toInt32).toInt8.toInt32))] [(.int (((pb.toUInt32 >>> (((8 : Int32) * pi) &&& 31).toUInt32).toInt32).toInt8.toInt32))]))
  refine own_st (fun _ k => XS.iload X0.here hx rfl (hb hby own_d_method_3_code_22) rfl k) ?_
  show own_Gl _ _ _ _ _ _ _ (s₁.setTop (mkF m 24 #[.val (.ref o), .val (.ref g), .val (.int pn), .val (.int pi), .val (.int pb), .val (.int (((pb.toUInt32 >>> (((8 : Int32) * pi) &&& 31).toUInt32).toInt32).toInt8.toInt32))] [(.int (((pb.toUInt32 >>> (((8 : Int32) * pi) &&& 31).toUInt32).toInt32).toInt8.toInt32)), (.int (((pb.toUInt32 >>> (((8 : Int32) * pi) &&& 31).toUInt32).toInt32).toInt8.toInt32))]))
  have hd3 : (((pb.toUInt32 >>> (((8 : Int32) * pi) &&& 31).toUInt32).toInt32).toInt8.toInt32) = (((pb.toUInt32 >>> (((8 : Int32) * pi) &&& 31).toUInt32).toInt32).toInt8.toInt32) := rfl
  refine own_st (fun _ k => XS.icmpNo X0.here hx rfl (hb hby own_d_method_3_code_24) rfl (teq hd3).2 k) ?_
  show own_Gl _ _ _ _ _ _ _ (s₁.setTop (mkF m 27 #[.val (.ref o), .val (.ref g), .val (.int pn), .val (.int pi), .val (.int pb), .val (.int (((pb.toUInt32 >>> (((8 : Int32) * pi) &&& 31).toUInt32).toInt32).toInt8.toInt32))] []))
  refine own_st (fun _ k => XS.aloadN X0.here hx rfl (hb hby own_d_method_3_code_27) rfl rfl k) ?_
  show own_Gl _ _ _ _ _ _ _ (s₁.setTop (mkF m 28 #[.val (.ref o), .val (.ref g), .val (.int pn), .val (.int pi), .val (.int pb), .val (.int (((pb.toUInt32 >>> (((8 : Int32) * pi) &&& 31).toUInt32).toInt32).toInt8.toInt32))] [(.ref g)]))
  refine own_st (fun _ k => XS.iloadN X0.here hx rfl (hb hby own_d_method_3_code_28) rfl k) ?_
  show own_Gl _ _ _ _ _ _ _ (s₁.setTop (mkF m 29 #[.val (.ref o), .val (.ref g), .val (.int pn), .val (.int pi), .val (.int pb), .val (.int (((pb.toUInt32 >>> (((8 : Int32) * pi) &&& 31).toUInt32).toInt32).toInt8.toInt32))] [(.int pi), (.ref g)]))
  obtain ⟨cl4, Ar4, qq4, Ss4, Nn4, Hh4, Gg4⟩ := id V_g
  have hin4 : ¬ (pi < 0 ∨ cl4.slots.size ≤ (pi).toNatClampNeg) := inb_of Ss4 hi2
  have hat4 : cl4.slots[(pi).toNatClampNeg]? = some (.int (((pb.toUInt32 >>> (((8 : Int32) * pi) &&& 31).toUInt32).toInt32).toInt8.toInt32)) := Hh4.at hin4 (hv2)
  refine own_st (X0.baloadBytes hx (j := pi) (v := (.int (((pb.toUInt32 >>> (((8 : Int32) * pi) &&& 31).toUInt32).toInt32).toInt8.toInt32))) (by rw [e0]; exact Ar4.1) (State.isArrayOf_alike hZ.alike Ar4.2.1) Ar4.2.2 hin4 hat4 (g := (mkF m 29 #[.val (.ref o), .val (.ref g), .val (.int pn), .val (.int pi), .val (.int pb), .val (.int (((pb.toUInt32 >>> (((8 : Int32) * pi) &&& 31).toUInt32).toInt32).toInt8.toInt32))] [(.int pi), (.ref g)])) rfl rfl (hb hby own_d_method_3_code_29)) ?_
  show own_Gl _ _ _ _ _ _ _ (s₁.setTop (mkF m 30 #[.val (.ref o), .val (.ref g), .val (.int pn), .val (.int pi), .val (.int pb), .val (.int (((pb.toUInt32 >>> (((8 : Int32) * pi) &&& 31).toUInt32).toInt32).toInt8.toInt32))] [(.int (((pb.toUInt32 >>> (((8 : Int32) * pi) &&& 31).toUInt32).toInt32).toInt8.toInt32))]))
  refine own_st (fun _ k => XS.iload X0.here hx rfl (hb hby own_d_method_3_code_30) rfl k) ?_
  show own_Gl _ _ _ _ _ _ _ (s₁.setTop (mkF m 32 #[.val (.ref o), .val (.ref g), .val (.int pn), .val (.int pi), .val (.int pb), .val (.int (((pb.toUInt32 >>> (((8 : Int32) * pi) &&& 31).toUInt32).toInt32).toInt8.toInt32))] [(.int (((pb.toUInt32 >>> (((8 : Int32) * pi) &&& 31).toUInt32).toInt32).toInt8.toInt32)), (.int (((pb.toUInt32 >>> (((8 : Int32) * pi) &&& 31).toUInt32).toInt32).toInt8.toInt32))]))
  have hd5 : (((pb.toUInt32 >>> (((8 : Int32) * pi) &&& 31).toUInt32).toInt32).toInt8.toInt32) = (((pb.toUInt32 >>> (((8 : Int32) * pi) &&& 31).toUInt32).toInt32).toInt8.toInt32) := rfl
  refine own_st (fun _ k => XS.icmpNo X0.here hx rfl (hb hby own_d_method_3_code_32) rfl (teq hd5).2 k) ?_
  show own_Gl _ _ _ _ _ _ _ (s₁.setTop (mkF m 35 #[.val (.ref o), .val (.ref g), .val (.int pn), .val (.int pi), .val (.int pb), .val (.int (((pb.toUInt32 >>> (((8 : Int32) * pi) &&& 31).toUInt32).toInt32).toInt8.toInt32))] []))
  refine own_st (fun _ k => XS.iconst X0.here hx rfl (hb hby own_d_method_3_code_35) k) ?_
  show own_Gl _ _ _ _ _ _ _ (s₁.setTop (mkF m 36 #[.val (.ref o), .val (.ref g), .val (.int pn), .val (.int pi), .val (.int pb), .val (.int (((pb.toUInt32 >>> (((8 : Int32) * pi) &&& 31).toUInt32).toInt32).toInt8.toInt32))] [(.int (1 : Int32))]))
  refine own_st (fun _ k => XS.goto X0.here hx rfl (pc0 := 36) (pc' := 40) rfl (hb hby own_d_method_3_code_36) (by decide) (by decide) k) ?_
  show own_Gl _ _ _ _ _ _ _ (s₁.setTop (mkF m 40 #[.val (.ref o), .val (.ref g), .val (.int pn), .val (.int pi), .val (.int pb), .val (.int (((pb.toUInt32 >>> (((8 : Int32) * pi) &&& 31).toUInt32).toInt32).toInt8.toInt32))] [(.int (1 : Int32))]))
  exact own_retN X0 hx hlk (t := .boolean) hret (by simp) (hb hby own_d_method_3_code_40) e0 ⟨rfl, N0, rfl⟩ (by decide) (by decide)
theorem own_pd128168445 : parseMethodDescriptor "([B)[B" = some ⟨[(.array .byte)], some (.array .byte)⟩ := by decide +kernel
theorem own_pd585243724 : parseMethodDescriptor "([B[BIII)Z" = some ⟨[(.array .byte), (.array .byte), .int, .int, .int], some .boolean⟩ := by decide +kernel
theorem own_ef_own_law (m : MethodId) (x0 : Int32) (x1 : Int32) : entryFrame m #[(.int x0), (.int x1)] maxLocals = mkF m 0 #[.val (.int x0), .val (.int x1), .unset, .unset, .unset] [] := by first | (simp [entryFrame, mkF, argsToLocals, Value.category, maxLocals]; done) | rfl
def own_Q_own_law (Z : State) (p1 : Int32) (p2 : Int32) (h0 : Heap) (n0 : Nat) (v : Option Value) (h : Heap) (L : List Loc) : Prop := v = some (.int 1) ∧ Fr n0 L
set_option maxRecDepth 65536 in
set_option maxHeartbeats 40000000 in
theorem own_law (l : Launch) (Z : State) (a0 : Array Value) (hw : ∀ d ∈ tables_1, d.before a0 Z = true) (ws : List Jvm.Cond) (p1 : Int32) (p2 : Int32) (h0 : Heap) (n0 : Nat) (Z0 : n0 ≤ h0.size) :
    MetFree l x (head1 (Jvm.Cond.code x code maxLocals ret :: ws) room_1) (fun xa xU => xa = #[(.int p1), (.int p2)] ∧ Z.Warmed39 xU.vm ∧ xU.heap = h0) (fun _ _ _ _ _ => True) (fun _ xU xo xV => ∃ v L, xo = .returned v ∧ own_Q_own_law Z p1 p2 h0 n0 v xV.heap L ∧ FrameEnd xU xo xV L room_1.cells room_1.slots) := by
  refine MetFree.of_bodySF (plainFor_of_name own_pn487933331) hisR ?_
  intro p e s m args below meth c s₁ Bd hml0 hP hK
  obtain ⟨rfl, hZ, hh⟩ := hP
  have hx := Bd.exec
  have hby := Bd.bytes
  have hlk := Bd.notSynchronized
  have hret := Bd.returns
  have hml : c.maxLocals = 5 := hml0
  have hown : s.vm.findClass "com/example/assayline/assayline/protocol/MllpFramePinLaw" = some m.cls := findClass_of_methodNamed Bd.named
  have hnm := (name_of_methodNamed Bd.named Bd.method).1
  have X0 : Stand p l e room_1 s m #[(.int p1), (.int p2)] below meth c s₁ [] 0 0 := Stand.of_body Bd
  have e0 : s₁.heap = h0 := by rw [← hh, Bd.state]; rfl
  have N0 := Fr.nil n0
  show own_Gl p e below s (own_Q_own_law Z p1 p2 h0 n0) room_1.cells room_1.slots _
  refine own_cast (own_ef_own_law m p1 p2) ?_
  show own_Gl _ _ _ _ _ _ _ (s₁.setTop (mkF m 0 #[.val (.int p1), .val (.int p2), .unset, .unset, .unset] []))
  refine own_st (fun _ k => XS.iloadN X0.here hx rfl (hb hby at_0) rfl k) ?_
  show own_Gl _ _ _ _ _ _ _ (s₁.setTop (mkF m 1 #[.val (.int p1), .val (.int p2), .unset, .unset, .unset] [(.int p1)]))
  refine own_st (X0.ldcInt hx hown (mvT hZ (hw _ (List.mem_of_getElem? (i := 0) rfl))) (g := (mkF m 1 #[.val (.int p1), .val (.int p2), .unset, .unset, .unset] [(.int p1)])) rfl (hb hby at_1)) ?_
  show own_Gl _ _ _ _ _ _ _ (s₁.setTop (mkF m 3 #[.val (.int p1), .val (.int p2), .unset, .unset, .unset] [(.int (2147483647 : Int32)), (.int p1)]))
  refine own_st (fun _ k => XS.iand X0.here hx rfl (hb hby at_3) rfl k) ?_
  show own_Gl _ _ _ _ _ _ _ (s₁.setTop (mkF m 4 #[.val (.int p1), .val (.int p2), .unset, .unset, .unset] [(.int (p1 &&& (2147483647 : Int32)))]))
  refine own_st (fun _ k => XS.iconst X0.here hx rfl (hb hby at_4) k) ?_
  show own_Gl _ _ _ _ _ _ _ (s₁.setTop (mkF m 5 #[.val (.int p1), .val (.int p2), .unset, .unset, .unset] [(.int (5 : Int32)), (.int (p1 &&& (2147483647 : Int32)))]))
  refine own_st (fun _ k => iremM X0 hx rfl (hb hby at_5) rfl (by decide) k) ?_
  show own_Gl _ _ _ _ _ _ _ (s₁.setTop (mkF m 6 #[.val (.int p1), .val (.int p2), .unset, .unset, .unset] [(.int ((p1 &&& (2147483647 : Int32)) % (5 : Int32)))]))
  refine own_st (fun _ k => XS.istoreN X0.here hx rfl (hb hby at_6) rfl (l' := #[.val (.int p1), .val (.int p2), .val (.int ((p1 &&& (2147483647 : Int32)) % (5 : Int32))), .unset, .unset]) rfl k) ?_
  show own_Gl _ _ _ _ _ _ _ (s₁.setTop (mkF m 7 #[.val (.int p1), .val (.int p2), .val (.int ((p1 &&& (2147483647 : Int32)) % (5 : Int32))), .unset, .unset] []))
  rcases own_mod5 p1 with hk | hk | hk | hk | hk
  · rw [hk]
    show own_Gl _ _ _ _ _ _ _ (s₁.setTop (mkF m 7 #[.val (.int p1), .val (.int p2), .val (.int (0 : Int32)), .unset, .unset] []))
    refine own_st (fun _ k => XS.iloadN X0.here hx rfl (hb hby at_7) rfl k) ?_
    show own_Gl _ _ _ _ _ _ _ (s₁.setTop (mkF m 8 #[.val (.int p1), .val (.int p2), .val (.int (0 : Int32)), .unset, .unset] [(.int (0 : Int32))]))
    obtain ⟨T1, h1, k1, X1, e1, E1, A1, st1⟩ := newP X0 hx hZ (hw _ (List.mem_of_getElem? (i := 1) rfl)) e0 (g := (mkF m 8 #[.val (.int p1), .val (.int p2), .val (.int (0 : Int32)), .unset, .unset] [(.int (0 : Int32))])) rfl (hb hby at_8) rfl (by decide) (cap := 0) (by decide) (by decide) (by decide) (by decide)
    obtain ⟨b1, gb1⟩ : ∃ z, z = h0.size := ⟨_, rfl⟩
    rw [← gb1] at A1 st1
    refine own_st st1 ?_
    have Zs2 : n0 ≤ h1.size := Nat.le_trans Z0 E1.1
    have g_b1 : n0 ≤ b1 := Nat.le_trans Z0 (Nat.le_of_eq gb1.symm)
    have gh_b1 : h0.size ≤ b1 := Nat.le_trans (Keep.refl h0 []).1 (Nat.le_of_eq gb1.symm)
    have V_b1 : Arv Z h1 b1 k1 .byte (0 : Int32) [] (.int (0 : Int32)) := Arv.new A1 (by decide)
    show own_Gl _ _ _ _ _ _ _ (T1.setTop (mkF m 10 #[.val (.int p1), .val (.int p2), .val (.int (0 : Int32)), .unset, .unset] [(.ref b1)]))
    refine own_st (fun _ k => XS.astoreN X1.here hx rfl (hb hby at_10) rfl rfl (l' := #[.val (.int p1), .val (.int p2), .val (.int (0 : Int32)), .val (.ref b1), .unset]) rfl k) ?_
    show own_Gl _ _ _ _ _ _ _ (T1.setTop (mkF m 11 #[.val (.int p1), .val (.int p2), .val (.int (0 : Int32)), .val (.ref b1), .unset] []))
    refine own_st (fun _ k => XS.iloadN X1.here hx rfl (hb hby at_11) rfl k) ?_
    show own_Gl _ _ _ _ _ _ _ (T1.setTop (mkF m 12 #[.val (.int p1), .val (.int p2), .val (.int (0 : Int32)), .val (.ref b1), .unset] [(.int (0 : Int32))]))
    have hd4 : ¬ ((0 : Int32) < (0 : Int32)) := (by decide)
    refine own_st (fun _ k => XS.ifYes X1.here hx rfl (pc0 := 12) (pc' := 20) rfl (hb hby at_12) rfl ((if0 _ _).trans (flt hd4).2.2.2) (by decide) (by decide) k) ?_
    show own_Gl _ _ _ _ _ _ _ (T1.setTop (mkF m 20 #[.val (.int p1), .val (.int p2), .val (.int (0 : Int32)), .val (.ref b1), .unset] []))
    refine own_st (fun _ k => XS.iloadN X1.here hx rfl (hb hby at_20) rfl k) ?_
    show own_Gl _ _ _ _ _ _ _ (T1.setTop (mkF m 21 #[.val (.int p1), .val (.int p2), .val (.int (0 : Int32)), .val (.ref b1), .unset] [(.int (0 : Int32))]))
    refine own_st (fun _ k => XS.iconst X1.here hx rfl (hb hby at_21) k) ?_
    show own_Gl _ _ _ _ _ _ _ (T1.setTop (mkF m 22 #[.val (.int p1), .val (.int p2), .val (.int (0 : Int32)), .val (.ref b1), .unset] [(.int (1 : Int32)), (.int (0 : Int32))]))
    have hd5 : ¬ ((1 : Int32) < (0 : Int32)) := (by decide)
    refine own_st (fun _ k => XS.icmpYes X1.here hx rfl (pc0 := 22) (pc' := 33) rfl (hb hby at_22) rfl (flt hd5).2.2.2 (by decide) (by decide) k) ?_
    show own_Gl _ _ _ _ _ _ _ (T1.setTop (mkF m 33 #[.val (.int p1), .val (.int p2), .val (.int (0 : Int32)), .val (.ref b1), .unset] []))
    refine own_st (fun _ k => XS.iloadN X1.here hx rfl (hb hby at_33) rfl k) ?_
    show own_Gl _ _ _ _ _ _ _ (T1.setTop (mkF m 34 #[.val (.int p1), .val (.int p2), .val (.int (0 : Int32)), .val (.ref b1), .unset] [(.int (0 : Int32))]))
    refine own_st (fun _ k => XS.iconst X1.here hx rfl (hb hby at_34) k) ?_
    show own_Gl _ _ _ _ _ _ _ (T1.setTop (mkF m 35 #[.val (.int p1), .val (.int p2), .val (.int (0 : Int32)), .val (.ref b1), .unset] [(.int (2 : Int32)), (.int (0 : Int32))]))
    have hd6 : ¬ ((2 : Int32) < (0 : Int32)) := (by decide)
    refine own_st (fun _ k => XS.icmpYes X1.here hx rfl (pc0 := 35) (pc' := 46) rfl (hb hby at_35) rfl (flt hd6).2.2.2 (by decide) (by decide) k) ?_
    show own_Gl _ _ _ _ _ _ _ (T1.setTop (mkF m 46 #[.val (.int p1), .val (.int p2), .val (.int (0 : Int32)), .val (.ref b1), .unset] []))
    refine own_st (fun _ k => XS.iloadN X1.here hx rfl (hb hby at_46) rfl k) ?_
    show own_Gl _ _ _ _ _ _ _ (T1.setTop (mkF m 47 #[.val (.int p1), .val (.int p2), .val (.int (0 : Int32)), .val (.ref b1), .unset] [(.int (0 : Int32))]))
    refine own_st (fun _ k => XS.iconst X1.here hx rfl (hb hby at_47) k) ?_
    show own_Gl _ _ _ _ _ _ _ (T1.setTop (mkF m 48 #[.val (.int p1), .val (.int p2), .val (.int (0 : Int32)), .val (.ref b1), .unset] [(.int (3 : Int32)), (.int (0 : Int32))]))
    have hd7 : ¬ ((3 : Int32) < (0 : Int32)) := (by decide)
    refine own_st (fun _ k => XS.icmpYes X1.here hx rfl (pc0 := 48) (pc' := 59) rfl (hb hby at_48) rfl (flt hd7).2.2.2 (by decide) (by decide) k) ?_
    show own_Gl _ _ _ _ _ _ _ (T1.setTop (mkF m 59 #[.val (.int p1), .val (.int p2), .val (.int (0 : Int32)), .val (.ref b1), .unset] []))
    refine own_st (fun _ k => XS.aloadN X1.here hx rfl (hb hby at_59) rfl rfl k) ?_
    show own_Gl _ _ _ _ _ _ _ (T1.setTop (mkF m 60 #[.val (.int p1), .val (.int p2), .val (.int (0 : Int32)), .val (.ref b1), .unset] [(.ref b1)]))
    obtain ⟨_, _, ⟨T8, L8, k8, n8⟩, -, X8, ⟨Lc8, hQ8, l8, y8, z8⟩, st8⟩ := Jvm.LawKit.callS X1 hx (y := (⟨"com/example/assayline/assayline/protocol/Mllp", "frame", "([B)[B"⟩ : MethodName)) hown (mvT hZ (hw _ (List.mem_of_getElem? (i := 2) rfl))) (mvT hZ (hw _ (List.mem_of_getElem? (i := 3) rfl))) (mvT hZ (hw _ (List.mem_of_getElem? (i := 4) rfl))) (mvT hZ (hw _ (List.mem_of_getElem? (i := 5) rfl))) (by decide) (backOf (W := 0) (own_frame0 l Z a0 hw [] b1 k1 h1 n0 Zs2 V_b1) hZ (hw _ (List.mem_of_getElem? (i := 5) rfl)) (hw _ (List.mem_of_getElem? (i := 4) rfl)) (by decide) (by decide)) (g := (mkF m 60 #[.val (.int p1), .val (.int p2), .val (.int (0 : Int32)), .val (.ref b1), .unset] [(.ref b1)])) rfl (by rw [hml]; rfl) (argsL := [(.ref b1)]) (rest := []) (lenOf own_pd128168445 rfl) rfl (by show 2 * 0 + _ ≤ _; exact Nat.le_of_eq rfl) (hb hby at_60) (fun _ _ => ⟨rfl, e1, (by decide : 1 + 1 ≤ room_1.cells), (by decide : 0 + 3 ≤ room_1.slots)⟩)
    dsimp only [Pt.U, Pt.locs, Pt.cells, Pt.slots] at X8 l8 y8 z8 st8 hQ8
    subst l8 y8 z8
    obtain ⟨hh8, eh08⟩ : ∃ z, T8.heap = z := ⟨_, rfl⟩
    rw [eh08] at hQ8
    obtain ⟨r_8, kr_8, rfl, Nq8, Kq8, P8_0, P8_1, P8_2⟩ := hQ8
    have N8 := Fr.app N0 Nq8
    refine own_st st8 ?_
    have K9 : Keep h0 h1 [] := ((Keep.refl h0 []).ext E1)
    have Zs10 : n0 ≤ hh8.size := Nat.le_trans Zs2 Kq8.1
    have gh_r_8 : h0.size ≤ r_8 := Nat.le_trans K9.1 P8_1
    have ne_b1_r_8 : b1 ≠ r_8 := Nat.ne_of_lt (Nat.lt_of_lt_of_le V_b1.lt P8_1)
    show own_Gl _ _ _ _ _ _ _ (T8.setTop (mkF m 63 #[.val (.int p1), .val (.int p2), .val (.int (0 : Int32)), .val (.ref b1), .unset] [(.ref r_8)]))
    refine own_st (fun _ k => XS.astore X8.here hx rfl (hb hby at_63) rfl rfl (l' := #[.val (.int p1), .val (.int p2), .val (.int (0 : Int32)), .val (.ref b1), .val (.ref r_8)]) rfl k) ?_
    show own_Gl _ _ _ _ _ _ _ (T8.setTop (mkF m 65 #[.val (.int p1), .val (.int p2), .val (.int (0 : Int32)), .val (.ref b1), .val (.ref r_8)] []))
    refine own_st (fun _ k => XS.aload X8.here hx rfl (hb hby at_65) rfl rfl k) ?_
    show own_Gl _ _ _ _ _ _ _ (T8.setTop (mkF m 67 #[.val (.int p1), .val (.int p2), .val (.int (0 : Int32)), .val (.ref b1), .val (.ref r_8)] [(.ref r_8)]))
    refine own_st (fun _ k => XS.ifnullNo X8.here hx rfl (hb hby at_67) rfl k) ?_
    show own_Gl _ _ _ _ _ _ _ (T8.setTop (mkF m 70 #[.val (.int p1), .val (.int p2), .val (.int (0 : Int32)), .val (.ref b1), .val (.ref r_8)] []))
    refine own_st (fun _ k => XS.aload X8.here hx rfl (hb hby at_70) rfl rfl k) ?_
    show own_Gl _ _ _ _ _ _ _ (T8.setTop (mkF m 72 #[.val (.int p1), .val (.int p2), .val (.int (0 : Int32)), .val (.ref b1), .val (.ref r_8)] [(.ref r_8)]))
    obtain ⟨cl11, Ar11, qq11, Ss11, Nn11, Hh11, Gg11⟩ := id P8_2
    refine own_st (X8.arraylength hx (by rw [eh08]; exact Ar11.1) (State.isArrayOf_alike hZ.alike Ar11.2.1) (g := (mkF m 72 #[.val (.int p1), .val (.int p2), .val (.int (0 : Int32)), .val (.ref b1), .val (.ref r_8)] [(.ref r_8)])) rfl rfl (hb hby at_72)) ?_
    rw [len_of Ss11 Nn11]
    show own_Gl _ _ _ _ _ _ _ (T8.setTop (mkF m 73 #[.val (.int p1), .val (.int p2), .val (.int (0 : Int32)), .val (.ref b1), .val (.ref r_8)] [(.int (3 : Int32))]))
    refine own_st (fun _ k => XS.iloadN X8.here hx rfl (hb hby at_73) rfl k) ?_
    show own_Gl _ _ _ _ _ _ _ (T8.setTop (mkF m 74 #[.val (.int p1), .val (.int p2), .val (.int (0 : Int32)), .val (.ref b1), .val (.ref r_8)] [(.int (0 : Int32)), (.int (3 : Int32))]))
    refine own_st (fun _ k => XS.iconst X8.here hx rfl (hb hby at_74) k) ?_
    show own_Gl _ _ _ _ _ _ _ (T8.setTop (mkF m 75 #[.val (.int p1), .val (.int p2), .val (.int (0 : Int32)), .val (.ref b1), .val (.ref r_8)] [(.int (3 : Int32)), (.int (0 : Int32)), (.int (3 : Int32))]))
    refine own_st (fun _ k => XS.iadd X8.here hx rfl (hb hby at_75) rfl k) ?_
    show own_Gl _ _ _ _ _ _ _ (T8.setTop (mkF m 76 #[.val (.int p1), .val (.int p2), .val (.int (0 : Int32)), .val (.ref b1), .val (.ref r_8)] [(.int (3 : Int32)), (.int (3 : Int32))]))
    have hd12 : (3 : Int32) = (3 : Int32) := (by decide)
    refine own_st (fun _ k => XS.icmpYes X8.here hx rfl (pc0 := 76) (pc' := 81) rfl (hb hby at_76) rfl (teq hd12).1 (by decide) (by decide) k) ?_
    show own_Gl _ _ _ _ _ _ _ (T8.setTop (mkF m 81 #[.val (.int p1), .val (.int p2), .val (.int (0 : Int32)), .val (.ref b1), .val (.ref r_8)] []))
    refine own_st (fun _ k => XS.aload X8.here hx rfl (hb hby at_81) rfl rfl k) ?_
    show own_Gl _ _ _ _ _ _ _ (T8.setTop (mkF m 83 #[.val (.int p1), .val (.int p2), .val (.int (0 : Int32)), .val (.ref b1), .val (.ref r_8)] [(.ref r_8)]))
    refine own_st (fun _ k => XS.iconst X8.here hx rfl (hb hby at_83) k) ?_
    show own_Gl _ _ _ _ _ _ _ (T8.setTop (mkF m 84 #[.val (.int p1), .val (.int p2), .val (.int (0 : Int32)), .val (.ref b1), .val (.ref r_8)] [(.int (0 : Int32)), (.ref r_8)]))
    obtain ⟨cl13, Ar13, qq13, Ss13, Nn13, Hh13, Gg13⟩ := id P8_2
    have hin13 : ¬ ((0 : Int32) < 0 ∨ cl13.slots.size ≤ ((0 : Int32)).toNatClampNeg) := inb_of Ss13 ⟨by decide, by decide⟩
    have hat13 : cl13.slots[((0 : Int32)).toNatClampNeg]? = some (.int (nar .byte (11 : Int32))) := Hh13.at hin13 (rfl)
    refine own_st (X8.baloadBytes hx (j := (0 : Int32)) (v := (.int (nar .byte (11 : Int32)))) (by rw [eh08]; exact Ar13.1) (State.isArrayOf_alike hZ.alike Ar13.2.1) Ar13.2.2 hin13 hat13 (g := (mkF m 84 #[.val (.int p1), .val (.int p2), .val (.int (0 : Int32)), .val (.ref b1), .val (.ref r_8)] [(.int (0 : Int32)), (.ref r_8)])) rfl rfl (hb hby at_84)) ?_
    show own_Gl _ _ _ _ _ _ _ (T8.setTop (mkF m 85 #[.val (.int p1), .val (.int p2), .val (.int (0 : Int32)), .val (.ref b1), .val (.ref r_8)] [(.int (nar .byte (11 : Int32)))]))
    refine own_st (fun _ k => XS.bipush X8.here hx rfl (hb hby at_85) k) ?_
    show own_Gl _ _ _ _ _ _ _ (T8.setTop (mkF m 87 #[.val (.int p1), .val (.int p2), .val (.int (0 : Int32)), .val (.ref b1), .val (.ref r_8)] [(.int (11 : Int32)), (.int (nar .byte (11 : Int32)))]))
    have hd14 : (nar .byte (11 : Int32)) = (11 : Int32) := (by decide)
    refine own_st (fun _ k => XS.icmpYes X8.here hx rfl (pc0 := 87) (pc' := 92) rfl (hb hby at_87) rfl (teq hd14).1 (by decide) (by decide) k) ?_
    show own_Gl _ _ _ _ _ _ _ (T8.setTop (mkF m 92 #[.val (.int p1), .val (.int p2), .val (.int (0 : Int32)), .val (.ref b1), .val (.ref r_8)] []))
    refine own_st (fun _ k => XS.aload X8.here hx rfl (hb hby at_92) rfl rfl k) ?_
    show own_Gl _ _ _ _ _ _ _ (T8.setTop (mkF m 94 #[.val (.int p1), .val (.int p2), .val (.int (0 : Int32)), .val (.ref b1), .val (.ref r_8)] [(.ref r_8)]))
    refine own_st (fun _ k => XS.aloadN X8.here hx rfl (hb hby at_94) rfl rfl k) ?_
    show own_Gl _ _ _ _ _ _ _ (T8.setTop (mkF m 95 #[.val (.int p1), .val (.int p2), .val (.int (0 : Int32)), .val (.ref b1), .val (.ref r_8)] [(.ref b1), (.ref r_8)]))
    refine own_st (fun _ k => XS.iloadN X8.here hx rfl (hb hby at_95) rfl k) ?_
    show own_Gl _ _ _ _ _ _ _ (T8.setTop (mkF m 96 #[.val (.int p1), .val (.int p2), .val (.int (0 : Int32)), .val (.ref b1), .val (.ref r_8)] [(.int (0 : Int32)), (.ref b1), (.ref r_8)]))
    refine own_st (fun _ k => XS.iconst X8.here hx rfl (hb hby at_96) k) ?_
    show own_Gl _ _ _ _ _ _ _ (T8.setTop (mkF m 97 #[.val (.int p1), .val (.int p2), .val (.int (0 : Int32)), .val (.ref b1), .val (.ref r_8)] [(.int (0 : Int32)), (.int (0 : Int32)), (.ref b1), (.ref r_8)]))
    refine own_st (fun _ k => XS.iloadN X8.here hx rfl (hb hby at_97) rfl k) ?_
    show own_Gl _ _ _ _ _ _ _ (T8.setTop (mkF m 98 #[.val (.int p1), .val (.int p2), .val (.int (0 : Int32)), .val (.ref b1), .val (.ref r_8)] [(.int p2), (.int (0 : Int32)), (.int (0 : Int32)), (.ref b1), (.ref r_8)]))
    have f16 := (V_b1.keep Kq8 nin0)
    obtain ⟨_, _, ⟨T15, L15, k15, n15⟩, -, X15, ⟨Lc15, hQ15, l15, y15, z15⟩, st15⟩ := Jvm.LawKit.callS X8 hx (y := (⟨"com/example/assayline/assayline/protocol/MllpFramePinLaw", "slot", "([B[BIII)Z"⟩ : MethodName)) hown (mvT hZ (hw _ (List.mem_of_getElem? (i := 10) rfl))) (mvT hZ (hw _ (List.mem_of_getElem? (i := 11) rfl))) (mvT hZ (hw _ (List.mem_of_getElem? (i := 12) rfl))) (mvT hZ (hw _ (List.mem_of_getElem? (i := 13) rfl))) (by decide) (backOf (W := 0) (own_slot0 l Z a0 hw [] r_8 b1 (0 : Int32) (0 : Int32) p2 hh8 n0 Zs10 (by decide)) hZ (hw _ (List.mem_of_getElem? (i := 13) rfl)) (hw _ (List.mem_of_getElem? (i := 12) rfl)) (by decide) (by decide)) (g := (mkF m 98 #[.val (.int p1), .val (.int p2), .val (.int (0 : Int32)), .val (.ref b1), .val (.ref r_8)] [(.int p2), (.int (0 : Int32)), (.int (0 : Int32)), (.ref b1), (.ref r_8)])) rfl (by rw [hml]; rfl) (argsL := [(.ref r_8), (.ref b1), (.int (0 : Int32)), (.int (0 : Int32)), (.int p2)]) (rest := []) (lenOf own_pd585243724 rfl) rfl (by show 2 * 0 + _ ≤ _; exact Nat.le_of_eq rfl) (hb hby at_98) (fun _ _ => ⟨rfl, eh08, (by decide : 2 + 0 ≤ room_1.cells), (by decide : 3 + 0 ≤ room_1.slots)⟩)
    dsimp only [Pt.U, Pt.locs, Pt.cells, Pt.slots] at X15 l15 y15 z15 st15 hQ15
    subst l15 y15 z15
    obtain ⟨hh15, eh015⟩ : ∃ z, T15.heap = z := ⟨_, rfl⟩
    rw [eh015] at hQ15
    obtain ⟨rfl, Nq15, eh15⟩ := hQ15
    have N15 := Fr.app N8 Nq15
    refine own_st st15 ?_
    have e15 : T15.heap = hh8 := eh015.trans eh15
    show own_Gl _ _ _ _ _ _ _ (T15.setTop (mkF m 101 #[.val (.int p1), .val (.int p2), .val (.int (0 : Int32)), .val (.ref b1), .val (.ref r_8)] [(.int (1 : Int32))]))
    have hd17 : ¬ ((1 : Int32) = (0 : Int32)) := (by decide)
    refine own_st (fun _ k => XS.ifYes X15.here hx rfl (pc0 := 101) (pc' := 106) rfl (hb hby at_101) rfl ((if0 _ _).trans (feq hd17).2) (by decide) (by decide) k) ?_
    show own_Gl _ _ _ _ _ _ _ (T15.setTop (mkF m 106 #[.val (.int p1), .val (.int p2), .val (.int (0 : Int32)), .val (.ref b1), .val (.ref r_8)] []))
    refine own_st (fun _ k => XS.aload X15.here hx rfl (hb hby at_106) rfl rfl k) ?_
    show own_Gl _ _ _ _ _ _ _ (T15.setTop (mkF m 108 #[.val (.int p1), .val (.int p2), .val (.int (0 : Int32)), .val (.ref b1), .val (.ref r_8)] [(.ref r_8)]))
    refine own_st (fun _ k => XS.aloadN X15.here hx rfl (hb hby at_108) rfl rfl k) ?_
    show own_Gl _ _ _ _ _ _ _ (T15.setTop (mkF m 109 #[.val (.int p1), .val (.int p2), .val (.int (0 : Int32)), .val (.ref b1), .val (.ref r_8)] [(.ref b1), (.ref r_8)]))
    refine own_st (fun _ k => XS.iloadN X15.here hx rfl (hb hby at_109) rfl k) ?_
    show own_Gl _ _ _ _ _ _ _ (T15.setTop (mkF m 110 #[.val (.int p1), .val (.int p2), .val (.int (0 : Int32)), .val (.ref b1), .val (.ref r_8)] [(.int (0 : Int32)), (.ref b1), (.ref r_8)]))
    refine own_st (fun _ k => XS.iconst X15.here hx rfl (hb hby at_110) k) ?_
    show own_Gl _ _ _ _ _ _ _ (T15.setTop (mkF m 111 #[.val (.int p1), .val (.int p2), .val (.int (0 : Int32)), .val (.ref b1), .val (.ref r_8)] [(.int (1 : Int32)), (.int (0 : Int32)), (.ref b1), (.ref r_8)]))
    refine own_st (fun _ k => XS.iloadN X15.here hx rfl (hb hby at_111) rfl k) ?_
    show own_Gl _ _ _ _ _ _ _ (T15.setTop (mkF m 112 #[.val (.int p1), .val (.int p2), .val (.int (0 : Int32)), .val (.ref b1), .val (.ref r_8)] [(.int p2), (.int (1 : Int32)), (.int (0 : Int32)), (.ref b1), (.ref r_8)]))
    obtain ⟨_, _, ⟨T18, L18, k18, n18⟩, -, X18, ⟨Lc18, hQ18, l18, y18, z18⟩, st18⟩ := Jvm.LawKit.callS X15 hx (y := (⟨"com/example/assayline/assayline/protocol/MllpFramePinLaw", "slot", "([B[BIII)Z"⟩ : MethodName)) hown (mvT hZ (hw _ (List.mem_of_getElem? (i := 10) rfl))) (mvT hZ (hw _ (List.mem_of_getElem? (i := 11) rfl))) (mvT hZ (hw _ (List.mem_of_getElem? (i := 12) rfl))) (mvT hZ (hw _ (List.mem_of_getElem? (i := 13) rfl))) (by decide) (backOf (W := 0) (own_slot0 l Z a0 hw [] r_8 b1 (0 : Int32) (1 : Int32) p2 hh8 n0 Zs10 (by decide)) hZ (hw _ (List.mem_of_getElem? (i := 13) rfl)) (hw _ (List.mem_of_getElem? (i := 12) rfl)) (by decide) (by decide)) (g := (mkF m 112 #[.val (.int p1), .val (.int p2), .val (.int (0 : Int32)), .val (.ref b1), .val (.ref r_8)] [(.int p2), (.int (1 : Int32)), (.int (0 : Int32)), (.ref b1), (.ref r_8)])) rfl (by rw [hml]; rfl) (argsL := [(.ref r_8), (.ref b1), (.int (0 : Int32)), (.int (1 : Int32)), (.int p2)]) (rest := []) (lenOf own_pd585243724 rfl) rfl (by show 2 * 0 + _ ≤ _; exact Nat.le_of_eq rfl) (hb hby at_112) (fun _ _ => ⟨rfl, e15, (by decide : 2 + 0 ≤ room_1.cells), (by decide : 3 + 0 ≤ room_1.slots)⟩)
    dsimp only [Pt.U, Pt.locs, Pt.cells, Pt.slots] at X18 l18 y18 z18 st18 hQ18
    subst l18 y18 z18
    obtain ⟨hh18, eh018⟩ : ∃ z, T18.heap = z := ⟨_, rfl⟩
    rw [eh018] at hQ18
    obtain ⟨rfl, Nq18, eh18⟩ := hQ18
    have N18 := Fr.app N15 Nq18
    refine own_st st18 ?_
    have e18 : T18.heap = hh8 := eh018.trans eh18
    show own_Gl _ _ _ _ _ _ _ (T18.setTop (mkF m 115 #[.val (.int p1), .val (.int p2), .val (.int (0 : Int32)), .val (.ref b1), .val (.ref r_8)] [(.int (1 : Int32))]))
    have hd19 : ¬ ((1 : Int32) = (0 : Int32)) := (by decide)
    refine own_st (fun _ k => XS.ifYes X18.here hx rfl (pc0 := 115) (pc' := 120) rfl (hb hby at_115) rfl ((if0 _ _).trans (feq hd19).2) (by decide) (by decide) k) ?_
    show own_Gl _ _ _ _ _ _ _ (T18.setTop (mkF m 120 #[.val (.int p1), .val (.int p2), .val (.int (0 : Int32)), .val (.ref b1), .val (.ref r_8)] []))
    refine own_st (fun _ k => XS.aload X18.here hx rfl (hb hby at_120) rfl rfl k) ?_
    show own_Gl _ _ _ _ _ _ _ (T18.setTop (mkF m 122 #[.val (.int p1), .val (.int p2), .val (.int (0 : Int32)), .val (.ref b1), .val (.ref r_8)] [(.ref r_8)]))
    refine own_st (fun _ k => XS.aloadN X18.here hx rfl (hb hby at_122) rfl rfl k) ?_
    show own_Gl _ _ _ _ _ _ _ (T18.setTop (mkF m 123 #[.val (.int p1), .val (.int p2), .val (.int (0 : Int32)), .val (.ref b1), .val (.ref r_8)] [(.ref b1), (.ref r_8)]))
    refine own_st (fun _ k => XS.iloadN X18.here hx rfl (hb hby at_123) rfl k) ?_
    show own_Gl _ _ _ _ _ _ _ (T18.setTop (mkF m 124 #[.val (.int p1), .val (.int p2), .val (.int (0 : Int32)), .val (.ref b1), .val (.ref r_8)] [(.int (0 : Int32)), (.ref b1), (.ref r_8)]))
    refine own_st (fun _ k => XS.iconst X18.here hx rfl (hb hby at_124) k) ?_
    show own_Gl _ _ _ _ _ _ _ (T18.setTop (mkF m 125 #[.val (.int p1), .val (.int p2), .val (.int (0 : Int32)), .val (.ref b1), .val (.ref r_8)] [(.int (2 : Int32)), (.int (0 : Int32)), (.ref b1), (.ref r_8)]))
    refine own_st (fun _ k => XS.iloadN X18.here hx rfl (hb hby at_125) rfl k) ?_
    show own_Gl _ _ _ _ _ _ _ (T18.setTop (mkF m 126 #[.val (.int p1), .val (.int p2), .val (.int (0 : Int32)), .val (.ref b1), .val (.ref r_8)] [(.int p2), (.int (2 : Int32)), (.int (0 : Int32)), (.ref b1), (.ref r_8)]))
    obtain ⟨_, _, ⟨T20, L20, k20, n20⟩, -, X20, ⟨Lc20, hQ20, l20, y20, z20⟩, st20⟩ := Jvm.LawKit.callS X18 hx (y := (⟨"com/example/assayline/assayline/protocol/MllpFramePinLaw", "slot", "([B[BIII)Z"⟩ : MethodName)) hown (mvT hZ (hw _ (List.mem_of_getElem? (i := 10) rfl))) (mvT hZ (hw _ (List.mem_of_getElem? (i := 11) rfl))) (mvT hZ (hw _ (List.mem_of_getElem? (i := 12) rfl))) (mvT hZ (hw _ (List.mem_of_getElem? (i := 13) rfl))) (by decide) (backOf (W := 0) (own_slot0 l Z a0 hw [] r_8 b1 (0 : Int32) (2 : Int32) p2 hh8 n0 Zs10 (by decide)) hZ (hw _ (List.mem_of_getElem? (i := 13) rfl)) (hw _ (List.mem_of_getElem? (i := 12) rfl)) (by decide) (by decide)) (g := (mkF m 126 #[.val (.int p1), .val (.int p2), .val (.int (0 : Int32)), .val (.ref b1), .val (.ref r_8)] [(.int p2), (.int (2 : Int32)), (.int (0 : Int32)), (.ref b1), (.ref r_8)])) rfl (by rw [hml]; rfl) (argsL := [(.ref r_8), (.ref b1), (.int (0 : Int32)), (.int (2 : Int32)), (.int p2)]) (rest := []) (lenOf own_pd585243724 rfl) rfl (by show 2 * 0 + _ ≤ _; exact Nat.le_of_eq rfl) (hb hby at_126) (fun _ _ => ⟨rfl, e18, (by decide : 2 + 0 ≤ room_1.cells), (by decide : 3 + 0 ≤ room_1.slots)⟩)
    dsimp only [Pt.U, Pt.locs, Pt.cells, Pt.slots] at X20 l20 y20 z20 st20 hQ20
    subst l20 y20 z20
    obtain ⟨hh20, eh020⟩ : ∃ z, T20.heap = z := ⟨_, rfl⟩
    rw [eh020] at hQ20
    obtain ⟨rfl, Nq20, eh20⟩ := hQ20
    have N20 := Fr.app N18 Nq20
    refine own_st st20 ?_
    have e20 : T20.heap = hh8 := eh020.trans eh20
    show own_Gl _ _ _ _ _ _ _ (T20.setTop (mkF m 129 #[.val (.int p1), .val (.int p2), .val (.int (0 : Int32)), .val (.ref b1), .val (.ref r_8)] [(.int (1 : Int32))]))
    have hd21 : ¬ ((1 : Int32) = (0 : Int32)) := (by decide)
    refine own_st (fun _ k => XS.ifYes X20.here hx rfl (pc0 := 129) (pc' := 134) rfl (hb hby at_129) rfl ((if0 _ _).trans (feq hd21).2) (by decide) (by decide) k) ?_
    show own_Gl _ _ _ _ _ _ _ (T20.setTop (mkF m 134 #[.val (.int p1), .val (.int p2), .val (.int (0 : Int32)), .val (.ref b1), .val (.ref r_8)] []))
    refine own_st (fun _ k => XS.aload X20.here hx rfl (hb hby at_134) rfl rfl k) ?_
    show own_Gl _ _ _ _ _ _ _ (T20.setTop (mkF m 136 #[.val (.int p1), .val (.int p2), .val (.int (0 : Int32)), .val (.ref b1), .val (.ref r_8)] [(.ref r_8)]))
    refine own_st (fun _ k => XS.aloadN X20.here hx rfl (hb hby at_136) rfl rfl k) ?_
    show own_Gl _ _ _ _ _ _ _ (T20.setTop (mkF m 137 #[.val (.int p1), .val (.int p2), .val (.int (0 : Int32)), .val (.ref b1), .val (.ref r_8)] [(.ref b1), (.ref r_8)]))
    refine own_st (fun _ k => XS.iloadN X20.here hx rfl (hb hby at_137) rfl k) ?_
    show own_Gl _ _ _ _ _ _ _ (T20.setTop (mkF m 138 #[.val (.int p1), .val (.int p2), .val (.int (0 : Int32)), .val (.ref b1), .val (.ref r_8)] [(.int (0 : Int32)), (.ref b1), (.ref r_8)]))
    refine own_st (fun _ k => XS.iconst X20.here hx rfl (hb hby at_138) k) ?_
    show own_Gl _ _ _ _ _ _ _ (T20.setTop (mkF m 139 #[.val (.int p1), .val (.int p2), .val (.int (0 : Int32)), .val (.ref b1), .val (.ref r_8)] [(.int (3 : Int32)), (.int (0 : Int32)), (.ref b1), (.ref r_8)]))
    refine own_st (fun _ k => XS.iloadN X20.here hx rfl (hb hby at_139) rfl k) ?_
    show own_Gl _ _ _ _ _ _ _ (T20.setTop (mkF m 140 #[.val (.int p1), .val (.int p2), .val (.int (0 : Int32)), .val (.ref b1), .val (.ref r_8)] [(.int p2), (.int (3 : Int32)), (.int (0 : Int32)), (.ref b1), (.ref r_8)]))
    obtain ⟨_, _, ⟨T22, L22, k22, n22⟩, -, X22, ⟨Lc22, hQ22, l22, y22, z22⟩, st22⟩ := Jvm.LawKit.callS X20 hx (y := (⟨"com/example/assayline/assayline/protocol/MllpFramePinLaw", "slot", "([B[BIII)Z"⟩ : MethodName)) hown (mvT hZ (hw _ (List.mem_of_getElem? (i := 10) rfl))) (mvT hZ (hw _ (List.mem_of_getElem? (i := 11) rfl))) (mvT hZ (hw _ (List.mem_of_getElem? (i := 12) rfl))) (mvT hZ (hw _ (List.mem_of_getElem? (i := 13) rfl))) (by decide) (backOf (W := 0) (own_slot0 l Z a0 hw [] r_8 b1 (0 : Int32) (3 : Int32) p2 hh8 n0 Zs10 (by decide)) hZ (hw _ (List.mem_of_getElem? (i := 13) rfl)) (hw _ (List.mem_of_getElem? (i := 12) rfl)) (by decide) (by decide)) (g := (mkF m 140 #[.val (.int p1), .val (.int p2), .val (.int (0 : Int32)), .val (.ref b1), .val (.ref r_8)] [(.int p2), (.int (3 : Int32)), (.int (0 : Int32)), (.ref b1), (.ref r_8)])) rfl (by rw [hml]; rfl) (argsL := [(.ref r_8), (.ref b1), (.int (0 : Int32)), (.int (3 : Int32)), (.int p2)]) (rest := []) (lenOf own_pd585243724 rfl) rfl (by show 2 * 0 + _ ≤ _; exact Nat.le_of_eq rfl) (hb hby at_140) (fun _ _ => ⟨rfl, e20, (by decide : 2 + 0 ≤ room_1.cells), (by decide : 3 + 0 ≤ room_1.slots)⟩)
    dsimp only [Pt.U, Pt.locs, Pt.cells, Pt.slots] at X22 l22 y22 z22 st22 hQ22
    subst l22 y22 z22
    obtain ⟨hh22, eh022⟩ : ∃ z, T22.heap = z := ⟨_, rfl⟩
    rw [eh022] at hQ22
    obtain ⟨rfl, Nq22, eh22⟩ := hQ22
    have N22 := Fr.app N20 Nq22
    refine own_st st22 ?_
    have e22 : T22.heap = hh8 := eh022.trans eh22
    show own_Gl _ _ _ _ _ _ _ (T22.setTop (mkF m 143 #[.val (.int p1), .val (.int p2), .val (.int (0 : Int32)), .val (.ref b1), .val (.ref r_8)] [(.int (1 : Int32))]))
    have hd23 : ¬ ((1 : Int32) = (0 : Int32)) := (by decide)
    refine own_st (fun _ k => XS.ifYes X22.here hx rfl (pc0 := 143) (pc' := 148) rfl (hb hby at_143) rfl ((if0 _ _).trans (feq hd23).2) (by decide) (by decide) k) ?_
    show own_Gl _ _ _ _ _ _ _ (T22.setTop (mkF m 148 #[.val (.int p1), .val (.int p2), .val (.int (0 : Int32)), .val (.ref b1), .val (.ref r_8)] []))
    refine own_st (fun _ k => XS.aload X22.here hx rfl (hb hby at_148) rfl rfl k) ?_
    show own_Gl _ _ _ _ _ _ _ (T22.setTop (mkF m 150 #[.val (.int p1), .val (.int p2), .val (.int (0 : Int32)), .val (.ref b1), .val (.ref r_8)] [(.ref r_8)]))
    refine own_st (fun _ k => XS.iloadN X22.here hx rfl (hb hby at_150) rfl k) ?_
    show own_Gl _ _ _ _ _ _ _ (T22.setTop (mkF m 151 #[.val (.int p1), .val (.int p2), .val (.int (0 : Int32)), .val (.ref b1), .val (.ref r_8)] [(.int (0 : Int32)), (.ref r_8)]))
    refine own_st (fun _ k => XS.iconst X22.here hx rfl (hb hby at_151) k) ?_
    show own_Gl _ _ _ _ _ _ _ (T22.setTop (mkF m 152 #[.val (.int p1), .val (.int p2), .val (.int (0 : Int32)), .val (.ref b1), .val (.ref r_8)] [(.int (1 : Int32)), (.int (0 : Int32)), (.ref r_8)]))
    refine own_st (fun _ k => XS.iadd X22.here hx rfl (hb hby at_152) rfl k) ?_
    show own_Gl _ _ _ _ _ _ _ (T22.setTop (mkF m 153 #[.val (.int p1), .val (.int p2), .val (.int (0 : Int32)), .val (.ref b1), .val (.ref r_8)] [(.int (1 : Int32)), (.ref r_8)]))
    obtain ⟨cl24, Ar24, qq24, Ss24, Nn24, Hh24, Gg24⟩ := id P8_2
    have hin24 : ¬ ((1 : Int32) < 0 ∨ cl24.slots.size ≤ ((1 : Int32)).toNatClampNeg) := inb_of Ss24 ⟨by decide, by decide⟩
    have hat24 : cl24.slots[((1 : Int32)).toNatClampNeg]? = some (.int (nar .byte (28 : Int32))) := Hh24.at hin24 (rfl)
    refine own_st (X22.baloadBytes hx (j := (1 : Int32)) (v := (.int (nar .byte (28 : Int32)))) (by rw [e22]; exact Ar24.1) (State.isArrayOf_alike hZ.alike Ar24.2.1) Ar24.2.2 hin24 hat24 (g := (mkF m 153 #[.val (.int p1), .val (.int p2), .val (.int (0 : Int32)), .val (.ref b1), .val (.ref r_8)] [(.int (1 : Int32)), (.ref r_8)])) rfl rfl (hb hby at_153)) ?_
    show own_Gl _ _ _ _ _ _ _ (T22.setTop (mkF m 154 #[.val (.int p1), .val (.int p2), .val (.int (0 : Int32)), .val (.ref b1), .val (.ref r_8)] [(.int (nar .byte (28 : Int32)))]))
    refine own_st (fun _ k => XS.bipush X22.here hx rfl (hb hby at_154) k) ?_
    show own_Gl _ _ _ _ _ _ _ (T22.setTop (mkF m 156 #[.val (.int p1), .val (.int p2), .val (.int (0 : Int32)), .val (.ref b1), .val (.ref r_8)] [(.int (28 : Int32)), (.int (nar .byte (28 : Int32)))]))
    have hd25 : (nar .byte (28 : Int32)) = (28 : Int32) := (by decide)
    refine own_st (fun _ k => XS.icmpYes X22.here hx rfl (pc0 := 156) (pc' := 161) rfl (hb hby at_156) rfl (teq hd25).1 (by decide) (by decide) k) ?_
    show own_Gl _ _ _ _ _ _ _ (T22.setTop (mkF m 161 #[.val (.int p1), .val (.int p2), .val (.int (0 : Int32)), .val (.ref b1), .val (.ref r_8)] []))
    refine own_st (fun _ k => XS.aload X22.here hx rfl (hb hby at_161) rfl rfl k) ?_
    show own_Gl _ _ _ _ _ _ _ (T22.setTop (mkF m 163 #[.val (.int p1), .val (.int p2), .val (.int (0 : Int32)), .val (.ref b1), .val (.ref r_8)] [(.ref r_8)]))
    refine own_st (fun _ k => XS.iloadN X22.here hx rfl (hb hby at_163) rfl k) ?_
    show own_Gl _ _ _ _ _ _ _ (T22.setTop (mkF m 164 #[.val (.int p1), .val (.int p2), .val (.int (0 : Int32)), .val (.ref b1), .val (.ref r_8)] [(.int (0 : Int32)), (.ref r_8)]))
    refine own_st (fun _ k => XS.iconst X22.here hx rfl (hb hby at_164) k) ?_
    show own_Gl _ _ _ _ _ _ _ (T22.setTop (mkF m 165 #[.val (.int p1), .val (.int p2), .val (.int (0 : Int32)), .val (.ref b1), .val (.ref r_8)] [(.int (2 : Int32)), (.int (0 : Int32)), (.ref r_8)]))
    refine own_st (fun _ k => XS.iadd X22.here hx rfl (hb hby at_165) rfl k) ?_
    show own_Gl _ _ _ _ _ _ _ (T22.setTop (mkF m 166 #[.val (.int p1), .val (.int p2), .val (.int (0 : Int32)), .val (.ref b1), .val (.ref r_8)] [(.int (2 : Int32)), (.ref r_8)]))
    obtain ⟨cl26, Ar26, qq26, Ss26, Nn26, Hh26, Gg26⟩ := id P8_2
    have hin26 : ¬ ((2 : Int32) < 0 ∨ cl26.slots.size ≤ ((2 : Int32)).toNatClampNeg) := inb_of Ss26 ⟨by decide, by decide⟩
    have hat26 : cl26.slots[((2 : Int32)).toNatClampNeg]? = some (.int (nar .byte (13 : Int32))) := Hh26.at hin26 (rfl)
    refine own_st (X22.baloadBytes hx (j := (2 : Int32)) (v := (.int (nar .byte (13 : Int32)))) (by rw [e22]; exact Ar26.1) (State.isArrayOf_alike hZ.alike Ar26.2.1) Ar26.2.2 hin26 hat26 (g := (mkF m 166 #[.val (.int p1), .val (.int p2), .val (.int (0 : Int32)), .val (.ref b1), .val (.ref r_8)] [(.int (2 : Int32)), (.ref r_8)])) rfl rfl (hb hby at_166)) ?_
    show own_Gl _ _ _ _ _ _ _ (T22.setTop (mkF m 167 #[.val (.int p1), .val (.int p2), .val (.int (0 : Int32)), .val (.ref b1), .val (.ref r_8)] [(.int (nar .byte (13 : Int32)))]))
    refine own_st (fun _ k => XS.bipush X22.here hx rfl (hb hby at_167) k) ?_
    show own_Gl _ _ _ _ _ _ _ (T22.setTop (mkF m 169 #[.val (.int p1), .val (.int p2), .val (.int (0 : Int32)), .val (.ref b1), .val (.ref r_8)] [(.int (13 : Int32)), (.int (nar .byte (13 : Int32)))]))
    have hd27 : (nar .byte (13 : Int32)) = (13 : Int32) := (by decide)
    refine own_st (fun _ k => XS.icmpYes X22.here hx rfl (pc0 := 169) (pc' := 174) rfl (hb hby at_169) rfl (teq hd27).1 (by decide) (by decide) k) ?_
    show own_Gl _ _ _ _ _ _ _ (T22.setTop (mkF m 174 #[.val (.int p1), .val (.int p2), .val (.int (0 : Int32)), .val (.ref b1), .val (.ref r_8)] []))
    refine own_st (fun _ k => XS.iconst X22.here hx rfl (hb hby at_174) k) ?_
    show own_Gl _ _ _ _ _ _ _ (T22.setTop (mkF m 175 #[.val (.int p1), .val (.int p2), .val (.int (0 : Int32)), .val (.ref b1), .val (.ref r_8)] [(.int (1 : Int32))]))
    exact own_retN X22 hx hlk (t := .boolean) hret (by simp) (hb hby at_175) e22 ⟨rfl, N22⟩ (by decide) (by decide)
  · rw [hk]
    show own_Gl _ _ _ _ _ _ _ (s₁.setTop (mkF m 7 #[.val (.int p1), .val (.int p2), .val (.int (1 : Int32)), .unset, .unset] []))
    refine own_st (fun _ k => XS.iloadN X0.here hx rfl (hb hby at_7) rfl k) ?_
    show own_Gl _ _ _ _ _ _ _ (s₁.setTop (mkF m 8 #[.val (.int p1), .val (.int p2), .val (.int (1 : Int32)), .unset, .unset] [(.int (1 : Int32))]))
    obtain ⟨T28, h28, k28, X28, e28, E28, A28, st28⟩ := newP X0 hx hZ (hw _ (List.mem_of_getElem? (i := 1) rfl)) e0 (g := (mkF m 8 #[.val (.int p1), .val (.int p2), .val (.int (1 : Int32)), .unset, .unset] [(.int (1 : Int32))])) rfl (hb hby at_8) rfl (by decide) (cap := 1) (by decide) (by decide) (by decide) (by decide)
    obtain ⟨b28, gb28⟩ : ∃ z, z = h0.size := ⟨_, rfl⟩
    rw [← gb28] at A28 st28
    refine own_st st28 ?_
    have Zs29 : n0 ≤ h28.size := Nat.le_trans Z0 E28.1
    have g_b28 : n0 ≤ b28 := Nat.le_trans Z0 (Nat.le_of_eq gb28.symm)
    have gh_b28 : h0.size ≤ b28 := Nat.le_trans (Keep.refl h0 []).1 (Nat.le_of_eq gb28.symm)
    have V_b28 : Arv Z h28 b28 k28 .byte (1 : Int32) [(.int (0 : Int32))] (.int (0 : Int32)) := (Arv.new A28 (by decide)).pad (pad_rep [] (.int (0 : Int32)) 1)
    show own_Gl _ _ _ _ _ _ _ (T28.setTop (mkF m 10 #[.val (.int p1), .val (.int p2), .val (.int (1 : Int32)), .unset, .unset] [(.ref b28)]))
    refine own_st (fun _ k => XS.astoreN X28.here hx rfl (hb hby at_10) rfl rfl (l' := #[.val (.int p1), .val (.int p2), .val (.int (1 : Int32)), .val (.ref b28), .unset]) rfl k) ?_
    show own_Gl _ _ _ _ _ _ _ (T28.setTop (mkF m 11 #[.val (.int p1), .val (.int p2), .val (.int (1 : Int32)), .val (.ref b28), .unset] []))
    refine own_st (fun _ k => XS.iloadN X28.here hx rfl (hb hby at_11) rfl k) ?_
    show own_Gl _ _ _ _ _ _ _ (T28.setTop (mkF m 12 #[.val (.int p1), .val (.int p2), .val (.int (1 : Int32)), .val (.ref b28), .unset] [(.int (1 : Int32))]))
    have hd31 : (0 : Int32) < (1 : Int32) := (by decide)
    refine own_st (fun _ k => XS.ifNo X28.here hx rfl (hb hby at_12) rfl ((if0 _ _).trans (tlt hd31).2.2.2) k) ?_
    show own_Gl _ _ _ _ _ _ _ (T28.setTop (mkF m 15 #[.val (.int p1), .val (.int p2), .val (.int (1 : Int32)), .val (.ref b28), .unset] []))
    refine own_st (fun _ k => XS.aloadN X28.here hx rfl (hb hby at_15) rfl rfl k) ?_
    show own_Gl _ _ _ _ _ _ _ (T28.setTop (mkF m 16 #[.val (.int p1), .val (.int p2), .val (.int (1 : Int32)), .val (.ref b28), .unset] [(.ref b28)]))
    refine own_st (fun _ k => XS.iconst X28.here hx rfl (hb hby at_16) k) ?_
    show own_Gl _ _ _ _ _ _ _ (T28.setTop (mkF m 17 #[.val (.int p1), .val (.int p2), .val (.int (1 : Int32)), .val (.ref b28), .unset] [(.int (0 : Int32)), (.ref b28)]))
    refine own_st (fun _ k => XS.iloadN X28.here hx rfl (hb hby at_17) rfl k) ?_
    show own_Gl _ _ _ _ _ _ _ (T28.setTop (mkF m 18 #[.val (.int p1), .val (.int p2), .val (.int (1 : Int32)), .val (.ref b28), .unset] [(.int p2), (.int (0 : Int32)), (.ref b28)]))
    refine own_st (fun _ k => XS.i2b X28.here hx rfl (hb hby at_18) rfl k) ?_
    show own_Gl _ _ _ _ _ _ _ (T28.setTop (mkF m 19 #[.val (.int p1), .val (.int p2), .val (.int (1 : Int32)), .val (.ref b28), .unset] [(.int (p2.toInt8.toInt32)), (.int (0 : Int32)), (.ref b28)]))
    obtain ⟨cl32, Ar32, qq32, Ss32, Nn32, Hh32, Gg32⟩ := id V_b28
    have hin32 : ¬ ((0 : Int32) < 0 ∨ cl32.slots.size ≤ ((0 : Int32)).toNatClampNeg) := inb_of Ss32 ⟨by decide, by decide⟩
    obtain ⟨T32, h32, X32, e32, W32, st32⟩ := stB X28 hx hZ e28 Ar32 (j := (0 : Int32)) hin32 (g := (mkF m 19 #[.val (.int p1), .val (.int p2), .val (.int (1 : Int32)), .val (.ref b28), .unset] [(.int (p2.toInt8.toInt32)), (.int (0 : Int32)), (.ref b28)])) rfl rfl (hb hby at_19)
    have N32 := Fr.snoc X32 N0 g_b28
    refine own_st st32 ?_
    have Zs33 : n0 ≤ h32.size := Nat.le_trans Zs29 (Keep.of_wr W32).1
    have Vw32 : Arv Z h32 b28 k28 .byte (1 : Int32) [(.int (nar .byte (p2.toInt8.toInt32)))] (.int (0 : Int32)) := Arv.set Ar32 qq32 Ss32 Nn32 Hh32 Gg32 (fits_nar_byte _) W32 0 (rfl) (Nat.le_of_ble_eq_true rfl)
    show own_Gl _ _ _ _ _ _ _ (T32.setTop (mkF m 20 #[.val (.int p1), .val (.int p2), .val (.int (1 : Int32)), .val (.ref b28), .unset] []))
    refine own_st (fun _ k => XS.iloadN X32.here hx rfl (hb hby at_20) rfl k) ?_
    show own_Gl _ _ _ _ _ _ _ (T32.setTop (mkF m 21 #[.val (.int p1), .val (.int p2), .val (.int (1 : Int32)), .val (.ref b28), .unset] [(.int (1 : Int32))]))
    refine own_st (fun _ k => XS.iconst X32.here hx rfl (hb hby at_21) k) ?_
    show own_Gl _ _ _ _ _ _ _ (T32.setTop (mkF m 22 #[.val (.int p1), .val (.int p2), .val (.int (1 : Int32)), .val (.ref b28), .unset] [(.int (1 : Int32)), (.int (1 : Int32))]))
    have hd34 : ¬ ((1 : Int32) < (1 : Int32)) := (by decide)
    refine own_st (fun _ k => XS.icmpYes X32.here hx rfl (pc0 := 22) (pc' := 33) rfl (hb hby at_22) rfl (flt hd34).2.2.2 (by decide) (by decide) k) ?_
    show own_Gl _ _ _ _ _ _ _ (T32.setTop (mkF m 33 #[.val (.int p1), .val (.int p2), .val (.int (1 : Int32)), .val (.ref b28), .unset] []))
    refine own_st (fun _ k => XS.iloadN X32.here hx rfl (hb hby at_33) rfl k) ?_
    show own_Gl _ _ _ _ _ _ _ (T32.setTop (mkF m 34 #[.val (.int p1), .val (.int p2), .val (.int (1 : Int32)), .val (.ref b28), .unset] [(.int (1 : Int32))]))
    refine own_st (fun _ k => XS.iconst X32.here hx rfl (hb hby at_34) k) ?_
    show own_Gl _ _ _ _ _ _ _ (T32.setTop (mkF m 35 #[.val (.int p1), .val (.int p2), .val (.int (1 : Int32)), .val (.ref b28), .unset] [(.int (2 : Int32)), (.int (1 : Int32))]))
    have hd35 : ¬ ((2 : Int32) < (1 : Int32)) := (by decide)
    refine own_st (fun _ k => XS.icmpYes X32.here hx rfl (pc0 := 35) (pc' := 46) rfl (hb hby at_35) rfl (flt hd35).2.2.2 (by decide) (by decide) k) ?_
    show own_Gl _ _ _ _ _ _ _ (T32.setTop (mkF m 46 #[.val (.int p1), .val (.int p2), .val (.int (1 : Int32)), .val (.ref b28), .unset] []))
    refine own_st (fun _ k => XS.iloadN X32.here hx rfl (hb hby at_46) rfl k) ?_
    show own_Gl _ _ _ _ _ _ _ (T32.setTop (mkF m 47 #[.val (.int p1), .val (.int p2), .val (.int (1 : Int32)), .val (.ref b28), .unset] [(.int (1 : Int32))]))
    refine own_st (fun _ k => XS.iconst X32.here hx rfl (hb hby at_47) k) ?_
    show own_Gl _ _ _ _ _ _ _ (T32.setTop (mkF m 48 #[.val (.int p1), .val (.int p2), .val (.int (1 : Int32)), .val (.ref b28), .unset] [(.int (3 : Int32)), (.int (1 : Int32))]))
    have hd36 : ¬ ((3 : Int32) < (1 : Int32)) := (by decide)
    refine own_st (fun _ k => XS.icmpYes X32.here hx rfl (pc0 := 48) (pc' := 59) rfl (hb hby at_48) rfl (flt hd36).2.2.2 (by decide) (by decide) k) ?_
    show own_Gl _ _ _ _ _ _ _ (T32.setTop (mkF m 59 #[.val (.int p1), .val (.int p2), .val (.int (1 : Int32)), .val (.ref b28), .unset] []))
    refine own_st (fun _ k => XS.aloadN X32.here hx rfl (hb hby at_59) rfl rfl k) ?_
    show own_Gl _ _ _ _ _ _ _ (T32.setTop (mkF m 60 #[.val (.int p1), .val (.int p2), .val (.int (1 : Int32)), .val (.ref b28), .unset] [(.ref b28)]))
    obtain ⟨_, _, ⟨T37, L37, k37, n37⟩, -, X37, ⟨Lc37, hQ37, l37, y37, z37⟩, st37⟩ := Jvm.LawKit.callS X32 hx (y := (⟨"com/example/assayline/assayline/protocol/Mllp", "frame", "([B)[B"⟩ : MethodName)) hown (mvT hZ (hw _ (List.mem_of_getElem? (i := 2) rfl))) (mvT hZ (hw _ (List.mem_of_getElem? (i := 3) rfl))) (mvT hZ (hw _ (List.mem_of_getElem? (i := 4) rfl))) (mvT hZ (hw _ (List.mem_of_getElem? (i := 5) rfl))) (by decide) (backOf (W := 0) (own_frame1 l Z a0 hw [] b28 k28 (nar .byte (p2.toInt8.toInt32)) h32 n0 Zs33 Vw32) hZ (hw _ (List.mem_of_getElem? (i := 5) rfl)) (hw _ (List.mem_of_getElem? (i := 4) rfl)) (by decide) (by decide)) (g := (mkF m 60 #[.val (.int p1), .val (.int p2), .val (.int (1 : Int32)), .val (.ref b28), .unset] [(.ref b28)])) rfl (by rw [hml]; rfl) (argsL := [(.ref b28)]) (rest := []) (lenOf own_pd128168445 rfl) rfl (by show 2 * 0 + _ ≤ _; exact Nat.le_of_eq rfl) (hb hby at_60) (fun _ _ => ⟨rfl, e32, (by decide : 1 + 1 ≤ room_1.cells), (by decide : 1 + 4 ≤ room_1.slots)⟩)
    dsimp only [Pt.U, Pt.locs, Pt.cells, Pt.slots] at X37 l37 y37 z37 st37 hQ37
    subst l37 y37 z37
    obtain ⟨hh37, eh037⟩ : ∃ z, T37.heap = z := ⟨_, rfl⟩
    rw [eh037] at hQ37
    obtain ⟨r_37, kr_37, rfl, Nq37, Kq37, P37_0, P37_1, P37_2⟩ := hQ37
    have N37 := Fr.app N32 Nq37
    refine own_st st37 ?_
    have K38 : Keep h0 h32 [] := (((Keep.refl h0 []).ext E28).wr W32 (Or.inr gh_b28))
    have Zs39 : n0 ≤ hh37.size := Nat.le_trans Zs33 Kq37.1
    have gh_r_37 : h0.size ≤ r_37 := Nat.le_trans K38.1 P37_1
    have ne_b28_r_37 : b28 ≠ r_37 := Nat.ne_of_lt (Nat.lt_of_lt_of_le Vw32.lt P37_1)
    show own_Gl _ _ _ _ _ _ _ (T37.setTop (mkF m 63 #[.val (.int p1), .val (.int p2), .val (.int (1 : Int32)), .val (.ref b28), .unset] [(.ref r_37)]))
    refine own_st (fun _ k => XS.astore X37.here hx rfl (hb hby at_63) rfl rfl (l' := #[.val (.int p1), .val (.int p2), .val (.int (1 : Int32)), .val (.ref b28), .val (.ref r_37)]) rfl k) ?_
    show own_Gl _ _ _ _ _ _ _ (T37.setTop (mkF m 65 #[.val (.int p1), .val (.int p2), .val (.int (1 : Int32)), .val (.ref b28), .val (.ref r_37)] []))
    refine own_st (fun _ k => XS.aload X37.here hx rfl (hb hby at_65) rfl rfl k) ?_
    show own_Gl _ _ _ _ _ _ _ (T37.setTop (mkF m 67 #[.val (.int p1), .val (.int p2), .val (.int (1 : Int32)), .val (.ref b28), .val (.ref r_37)] [(.ref r_37)]))
    refine own_st (fun _ k => XS.ifnullNo X37.here hx rfl (hb hby at_67) rfl k) ?_
    show own_Gl _ _ _ _ _ _ _ (T37.setTop (mkF m 70 #[.val (.int p1), .val (.int p2), .val (.int (1 : Int32)), .val (.ref b28), .val (.ref r_37)] []))
    refine own_st (fun _ k => XS.aload X37.here hx rfl (hb hby at_70) rfl rfl k) ?_
    show own_Gl _ _ _ _ _ _ _ (T37.setTop (mkF m 72 #[.val (.int p1), .val (.int p2), .val (.int (1 : Int32)), .val (.ref b28), .val (.ref r_37)] [(.ref r_37)]))
    obtain ⟨cl40, Ar40, qq40, Ss40, Nn40, Hh40, Gg40⟩ := id P37_2
    refine own_st (X37.arraylength hx (by rw [eh037]; exact Ar40.1) (State.isArrayOf_alike hZ.alike Ar40.2.1) (g := (mkF m 72 #[.val (.int p1), .val (.int p2), .val (.int (1 : Int32)), .val (.ref b28), .val (.ref r_37)] [(.ref r_37)])) rfl rfl (hb hby at_72)) ?_
    rw [len_of Ss40 Nn40]
    show own_Gl _ _ _ _ _ _ _ (T37.setTop (mkF m 73 #[.val (.int p1), .val (.int p2), .val (.int (1 : Int32)), .val (.ref b28), .val (.ref r_37)] [(.int (4 : Int32))]))
    refine own_st (fun _ k => XS.iloadN X37.here hx rfl (hb hby at_73) rfl k) ?_
    show own_Gl _ _ _ _ _ _ _ (T37.setTop (mkF m 74 #[.val (.int p1), .val (.int p2), .val (.int (1 : Int32)), .val (.ref b28), .val (.ref r_37)] [(.int (1 : Int32)), (.int (4 : Int32))]))
    refine own_st (fun _ k => XS.iconst X37.here hx rfl (hb hby at_74) k) ?_
    show own_Gl _ _ _ _ _ _ _ (T37.setTop (mkF m 75 #[.val (.int p1), .val (.int p2), .val (.int (1 : Int32)), .val (.ref b28), .val (.ref r_37)] [(.int (3 : Int32)), (.int (1 : Int32)), (.int (4 : Int32))]))
    refine own_st (fun _ k => XS.iadd X37.here hx rfl (hb hby at_75) rfl k) ?_
    show own_Gl _ _ _ _ _ _ _ (T37.setTop (mkF m 76 #[.val (.int p1), .val (.int p2), .val (.int (1 : Int32)), .val (.ref b28), .val (.ref r_37)] [(.int (4 : Int32)), (.int (4 : Int32))]))
    have hd41 : (4 : Int32) = (4 : Int32) := (by decide)
    refine own_st (fun _ k => XS.icmpYes X37.here hx rfl (pc0 := 76) (pc' := 81) rfl (hb hby at_76) rfl (teq hd41).1 (by decide) (by decide) k) ?_
    show own_Gl _ _ _ _ _ _ _ (T37.setTop (mkF m 81 #[.val (.int p1), .val (.int p2), .val (.int (1 : Int32)), .val (.ref b28), .val (.ref r_37)] []))
    refine own_st (fun _ k => XS.aload X37.here hx rfl (hb hby at_81) rfl rfl k) ?_
    show own_Gl _ _ _ _ _ _ _ (T37.setTop (mkF m 83 #[.val (.int p1), .val (.int p2), .val (.int (1 : Int32)), .val (.ref b28), .val (.ref r_37)] [(.ref r_37)]))
    refine own_st (fun _ k => XS.iconst X37.here hx rfl (hb hby at_83) k) ?_
    show own_Gl _ _ _ _ _ _ _ (T37.setTop (mkF m 84 #[.val (.int p1), .val (.int p2), .val (.int (1 : Int32)), .val (.ref b28), .val (.ref r_37)] [(.int (0 : Int32)), (.ref r_37)]))
    obtain ⟨cl42, Ar42, qq42, Ss42, Nn42, Hh42, Gg42⟩ := id P37_2
    have hin42 : ¬ ((0 : Int32) < 0 ∨ cl42.slots.size ≤ ((0 : Int32)).toNatClampNeg) := inb_of Ss42 ⟨by decide, by decide⟩
    have hat42 : cl42.slots[((0 : Int32)).toNatClampNeg]? = some (.int (nar .byte (11 : Int32))) := Hh42.at hin42 (rfl)
    refine own_st (X37.baloadBytes hx (j := (0 : Int32)) (v := (.int (nar .byte (11 : Int32)))) (by rw [eh037]; exact Ar42.1) (State.isArrayOf_alike hZ.alike Ar42.2.1) Ar42.2.2 hin42 hat42 (g := (mkF m 84 #[.val (.int p1), .val (.int p2), .val (.int (1 : Int32)), .val (.ref b28), .val (.ref r_37)] [(.int (0 : Int32)), (.ref r_37)])) rfl rfl (hb hby at_84)) ?_
    show own_Gl _ _ _ _ _ _ _ (T37.setTop (mkF m 85 #[.val (.int p1), .val (.int p2), .val (.int (1 : Int32)), .val (.ref b28), .val (.ref r_37)] [(.int (nar .byte (11 : Int32)))]))
    refine own_st (fun _ k => XS.bipush X37.here hx rfl (hb hby at_85) k) ?_
    show own_Gl _ _ _ _ _ _ _ (T37.setTop (mkF m 87 #[.val (.int p1), .val (.int p2), .val (.int (1 : Int32)), .val (.ref b28), .val (.ref r_37)] [(.int (11 : Int32)), (.int (nar .byte (11 : Int32)))]))
    have hd43 : (nar .byte (11 : Int32)) = (11 : Int32) := (by decide)
    refine own_st (fun _ k => XS.icmpYes X37.here hx rfl (pc0 := 87) (pc' := 92) rfl (hb hby at_87) rfl (teq hd43).1 (by decide) (by decide) k) ?_
    show own_Gl _ _ _ _ _ _ _ (T37.setTop (mkF m 92 #[.val (.int p1), .val (.int p2), .val (.int (1 : Int32)), .val (.ref b28), .val (.ref r_37)] []))
    refine own_st (fun _ k => XS.aload X37.here hx rfl (hb hby at_92) rfl rfl k) ?_
    show own_Gl _ _ _ _ _ _ _ (T37.setTop (mkF m 94 #[.val (.int p1), .val (.int p2), .val (.int (1 : Int32)), .val (.ref b28), .val (.ref r_37)] [(.ref r_37)]))
    refine own_st (fun _ k => XS.aloadN X37.here hx rfl (hb hby at_94) rfl rfl k) ?_
    show own_Gl _ _ _ _ _ _ _ (T37.setTop (mkF m 95 #[.val (.int p1), .val (.int p2), .val (.int (1 : Int32)), .val (.ref b28), .val (.ref r_37)] [(.ref b28), (.ref r_37)]))
    refine own_st (fun _ k => XS.iloadN X37.here hx rfl (hb hby at_95) rfl k) ?_
    show own_Gl _ _ _ _ _ _ _ (T37.setTop (mkF m 96 #[.val (.int p1), .val (.int p2), .val (.int (1 : Int32)), .val (.ref b28), .val (.ref r_37)] [(.int (1 : Int32)), (.ref b28), (.ref r_37)]))
    refine own_st (fun _ k => XS.iconst X37.here hx rfl (hb hby at_96) k) ?_
    show own_Gl _ _ _ _ _ _ _ (T37.setTop (mkF m 97 #[.val (.int p1), .val (.int p2), .val (.int (1 : Int32)), .val (.ref b28), .val (.ref r_37)] [(.int (0 : Int32)), (.int (1 : Int32)), (.ref b28), (.ref r_37)]))
    refine own_st (fun _ k => XS.iloadN X37.here hx rfl (hb hby at_97) rfl k) ?_
    show own_Gl _ _ _ _ _ _ _ (T37.setTop (mkF m 98 #[.val (.int p1), .val (.int p2), .val (.int (1 : Int32)), .val (.ref b28), .val (.ref r_37)] [(.int p2), (.int (0 : Int32)), (.int (1 : Int32)), (.ref b28), (.ref r_37)]))
    have f45 := (Vw32.keep Kq37 nin0)
    obtain ⟨_, _, ⟨T44, L44, k44, n44⟩, -, X44, ⟨Lc44, hQ44, l44, y44, z44⟩, st44⟩ := Jvm.LawKit.callS X37 hx (y := (⟨"com/example/assayline/assayline/protocol/MllpFramePinLaw", "slot", "([B[BIII)Z"⟩ : MethodName)) hown (mvT hZ (hw _ (List.mem_of_getElem? (i := 10) rfl))) (mvT hZ (hw _ (List.mem_of_getElem? (i := 11) rfl))) (mvT hZ (hw _ (List.mem_of_getElem? (i := 12) rfl))) (mvT hZ (hw _ (List.mem_of_getElem? (i := 13) rfl))) (by decide) (backOf (W := 0) (own_slot1 l Z a0 hw [] r_37 b28 (1 : Int32) (0 : Int32) p2 kr_37 k28 (4 : Int32) (1 : Int32) [(.int (nar .byte (11 : Int32))), (.int (nar .byte (p2.toInt8.toInt32))), (.int (nar .byte (28 : Int32))), (.int (nar .byte (13 : Int32)))] [(.int (nar .byte (p2.toInt8.toInt32)))] hh37 n0 Zs39 P37_2 f45 (by decide) ⟨by decide, by decide⟩ ⟨by decide, by decide⟩ (own_w0 p2) (own_w0 p2)) hZ (hw _ (List.mem_of_getElem? (i := 13) rfl)) (hw _ (List.mem_of_getElem? (i := 12) rfl)) (by decide) (by decide)) (g := (mkF m 98 #[.val (.int p1), .val (.int p2), .val (.int (1 : Int32)), .val (.ref b28), .val (.ref r_37)] [(.int p2), (.int (0 : Int32)), (.int (1 : Int32)), (.ref b28), (.ref r_37)])) rfl (by rw [hml]; rfl) (argsL := [(.ref r_37), (.ref b28), (.int (1 : Int32)), (.int (0 : Int32)), (.int p2)]) (rest := []) (lenOf own_pd585243724 rfl) rfl (by show 2 * 0 + _ ≤ _; exact Nat.le_of_eq rfl) (hb hby at_98) (fun _ _ => ⟨rfl, eh037, (by decide : 2 + 0 ≤ room_1.cells), (by decide : 5 + 0 ≤ room_1.slots)⟩)
    dsimp only [Pt.U, Pt.locs, Pt.cells, Pt.slots] at X44 l44 y44 z44 st44 hQ44
    subst l44 y44 z44
    obtain ⟨hh44, eh044⟩ : ∃ z, T44.heap = z := ⟨_, rfl⟩
    rw [eh044] at hQ44
    obtain ⟨rfl, Nq44, eh44⟩ := hQ44
    have N44 := Fr.app N37 Nq44
    refine own_st st44 ?_
    have e44 : T44.heap = hh37 := eh044.trans eh44
    show own_Gl _ _ _ _ _ _ _ (T44.setTop (mkF m 101 #[.val (.int p1), .val (.int p2), .val (.int (1 : Int32)), .val (.ref b28), .val (.ref r_37)] [(.int (1 : Int32))]))
    have hd46 : ¬ ((1 : Int32) = (0 : Int32)) := (by decide)
    refine own_st (fun _ k => XS.ifYes X44.here hx rfl (pc0 := 101) (pc' := 106) rfl (hb hby at_101) rfl ((if0 _ _).trans (feq hd46).2) (by decide) (by decide) k) ?_
    show own_Gl _ _ _ _ _ _ _ (T44.setTop (mkF m 106 #[.val (.int p1), .val (.int p2), .val (.int (1 : Int32)), .val (.ref b28), .val (.ref r_37)] []))
    refine own_st (fun _ k => XS.aload X44.here hx rfl (hb hby at_106) rfl rfl k) ?_
    show own_Gl _ _ _ _ _ _ _ (T44.setTop (mkF m 108 #[.val (.int p1), .val (.int p2), .val (.int (1 : Int32)), .val (.ref b28), .val (.ref r_37)] [(.ref r_37)]))
    refine own_st (fun _ k => XS.aloadN X44.here hx rfl (hb hby at_108) rfl rfl k) ?_
    show own_Gl _ _ _ _ _ _ _ (T44.setTop (mkF m 109 #[.val (.int p1), .val (.int p2), .val (.int (1 : Int32)), .val (.ref b28), .val (.ref r_37)] [(.ref b28), (.ref r_37)]))
    refine own_st (fun _ k => XS.iloadN X44.here hx rfl (hb hby at_109) rfl k) ?_
    show own_Gl _ _ _ _ _ _ _ (T44.setTop (mkF m 110 #[.val (.int p1), .val (.int p2), .val (.int (1 : Int32)), .val (.ref b28), .val (.ref r_37)] [(.int (1 : Int32)), (.ref b28), (.ref r_37)]))
    refine own_st (fun _ k => XS.iconst X44.here hx rfl (hb hby at_110) k) ?_
    show own_Gl _ _ _ _ _ _ _ (T44.setTop (mkF m 111 #[.val (.int p1), .val (.int p2), .val (.int (1 : Int32)), .val (.ref b28), .val (.ref r_37)] [(.int (1 : Int32)), (.int (1 : Int32)), (.ref b28), (.ref r_37)]))
    refine own_st (fun _ k => XS.iloadN X44.here hx rfl (hb hby at_111) rfl k) ?_
    show own_Gl _ _ _ _ _ _ _ (T44.setTop (mkF m 112 #[.val (.int p1), .val (.int p2), .val (.int (1 : Int32)), .val (.ref b28), .val (.ref r_37)] [(.int p2), (.int (1 : Int32)), (.int (1 : Int32)), (.ref b28), (.ref r_37)]))
    obtain ⟨_, _, ⟨T47, L47, k47, n47⟩, -, X47, ⟨Lc47, hQ47, l47, y47, z47⟩, st47⟩ := Jvm.LawKit.callS X44 hx (y := (⟨"com/example/assayline/assayline/protocol/MllpFramePinLaw", "slot", "([B[BIII)Z"⟩ : MethodName)) hown (mvT hZ (hw _ (List.mem_of_getElem? (i := 10) rfl))) (mvT hZ (hw _ (List.mem_of_getElem? (i := 11) rfl))) (mvT hZ (hw _ (List.mem_of_getElem? (i := 12) rfl))) (mvT hZ (hw _ (List.mem_of_getElem? (i := 13) rfl))) (by decide) (backOf (W := 0) (own_slot0 l Z a0 hw [] r_37 b28 (1 : Int32) (1 : Int32) p2 hh37 n0 Zs39 (by decide)) hZ (hw _ (List.mem_of_getElem? (i := 13) rfl)) (hw _ (List.mem_of_getElem? (i := 12) rfl)) (by decide) (by decide)) (g := (mkF m 112 #[.val (.int p1), .val (.int p2), .val (.int (1 : Int32)), .val (.ref b28), .val (.ref r_37)] [(.int p2), (.int (1 : Int32)), (.int (1 : Int32)), (.ref b28), (.ref r_37)])) rfl (by rw [hml]; rfl) (argsL := [(.ref r_37), (.ref b28), (.int (1 : Int32)), (.int (1 : Int32)), (.int p2)]) (rest := []) (lenOf own_pd585243724 rfl) rfl (by show 2 * 0 + _ ≤ _; exact Nat.le_of_eq rfl) (hb hby at_112) (fun _ _ => ⟨rfl, e44, (by decide : 2 + 0 ≤ room_1.cells), (by decide : 5 + 0 ≤ room_1.slots)⟩)
    dsimp only [Pt.U, Pt.locs, Pt.cells, Pt.slots] at X47 l47 y47 z47 st47 hQ47
    subst l47 y47 z47
    obtain ⟨hh47, eh047⟩ : ∃ z, T47.heap = z := ⟨_, rfl⟩
    rw [eh047] at hQ47
    obtain ⟨rfl, Nq47, eh47⟩ := hQ47
    have N47 := Fr.app N44 Nq47
    refine own_st st47 ?_
    have e47 : T47.heap = hh37 := eh047.trans eh47
    show own_Gl _ _ _ _ _ _ _ (T47.setTop (mkF m 115 #[.val (.int p1), .val (.int p2), .val (.int (1 : Int32)), .val (.ref b28), .val (.ref r_37)] [(.int (1 : Int32))]))
    have hd48 : ¬ ((1 : Int32) = (0 : Int32)) := (by decide)
    refine own_st (fun _ k => XS.ifYes X47.here hx rfl (pc0 := 115) (pc' := 120) rfl (hb hby at_115) rfl ((if0 _ _).trans (feq hd48).2) (by decide) (by decide) k) ?_
    show own_Gl _ _ _ _ _ _ _ (T47.setTop (mkF m 120 #[.val (.int p1), .val (.int p2), .val (.int (1 : Int32)), .val (.ref b28), .val (.ref r_37)] []))
    refine own_st (fun _ k => XS.aload X47.here hx rfl (hb hby at_120) rfl rfl k) ?_
    show own_Gl _ _ _ _ _ _ _ (T47.setTop (mkF m 122 #[.val (.int p1), .val (.int p2), .val (.int (1 : Int32)), .val (.ref b28), .val (.ref r_37)] [(.ref r_37)]))
    refine own_st (fun _ k => XS.aloadN X47.here hx rfl (hb hby at_122) rfl rfl k) ?_
    show own_Gl _ _ _ _ _ _ _ (T47.setTop (mkF m 123 #[.val (.int p1), .val (.int p2), .val (.int (1 : Int32)), .val (.ref b28), .val (.ref r_37)] [(.ref b28), (.ref r_37)]))
    refine own_st (fun _ k => XS.iloadN X47.here hx rfl (hb hby at_123) rfl k) ?_
    show own_Gl _ _ _ _ _ _ _ (T47.setTop (mkF m 124 #[.val (.int p1), .val (.int p2), .val (.int (1 : Int32)), .val (.ref b28), .val (.ref r_37)] [(.int (1 : Int32)), (.ref b28), (.ref r_37)]))
    refine own_st (fun _ k => XS.iconst X47.here hx rfl (hb hby at_124) k) ?_
    show own_Gl _ _ _ _ _ _ _ (T47.setTop (mkF m 125 #[.val (.int p1), .val (.int p2), .val (.int (1 : Int32)), .val (.ref b28), .val (.ref r_37)] [(.int (2 : Int32)), (.int (1 : Int32)), (.ref b28), (.ref r_37)]))
    refine own_st (fun _ k => XS.iloadN X47.here hx rfl (hb hby at_125) rfl k) ?_
    show own_Gl _ _ _ _ _ _ _ (T47.setTop (mkF m 126 #[.val (.int p1), .val (.int p2), .val (.int (1 : Int32)), .val (.ref b28), .val (.ref r_37)] [(.int p2), (.int (2 : Int32)), (.int (1 : Int32)), (.ref b28), (.ref r_37)]))
    obtain ⟨_, _, ⟨T49, L49, k49, n49⟩, -, X49, ⟨Lc49, hQ49, l49, y49, z49⟩, st49⟩ := Jvm.LawKit.callS X47 hx (y := (⟨"com/example/assayline/assayline/protocol/MllpFramePinLaw", "slot", "([B[BIII)Z"⟩ : MethodName)) hown (mvT hZ (hw _ (List.mem_of_getElem? (i := 10) rfl))) (mvT hZ (hw _ (List.mem_of_getElem? (i := 11) rfl))) (mvT hZ (hw _ (List.mem_of_getElem? (i := 12) rfl))) (mvT hZ (hw _ (List.mem_of_getElem? (i := 13) rfl))) (by decide) (backOf (W := 0) (own_slot0 l Z a0 hw [] r_37 b28 (1 : Int32) (2 : Int32) p2 hh37 n0 Zs39 (by decide)) hZ (hw _ (List.mem_of_getElem? (i := 13) rfl)) (hw _ (List.mem_of_getElem? (i := 12) rfl)) (by decide) (by decide)) (g := (mkF m 126 #[.val (.int p1), .val (.int p2), .val (.int (1 : Int32)), .val (.ref b28), .val (.ref r_37)] [(.int p2), (.int (2 : Int32)), (.int (1 : Int32)), (.ref b28), (.ref r_37)])) rfl (by rw [hml]; rfl) (argsL := [(.ref r_37), (.ref b28), (.int (1 : Int32)), (.int (2 : Int32)), (.int p2)]) (rest := []) (lenOf own_pd585243724 rfl) rfl (by show 2 * 0 + _ ≤ _; exact Nat.le_of_eq rfl) (hb hby at_126) (fun _ _ => ⟨rfl, e47, (by decide : 2 + 0 ≤ room_1.cells), (by decide : 5 + 0 ≤ room_1.slots)⟩)
    dsimp only [Pt.U, Pt.locs, Pt.cells, Pt.slots] at X49 l49 y49 z49 st49 hQ49
    subst l49 y49 z49
    obtain ⟨hh49, eh049⟩ : ∃ z, T49.heap = z := ⟨_, rfl⟩
    rw [eh049] at hQ49
    obtain ⟨rfl, Nq49, eh49⟩ := hQ49
    have N49 := Fr.app N47 Nq49
    refine own_st st49 ?_
    have e49 : T49.heap = hh37 := eh049.trans eh49
    show own_Gl _ _ _ _ _ _ _ (T49.setTop (mkF m 129 #[.val (.int p1), .val (.int p2), .val (.int (1 : Int32)), .val (.ref b28), .val (.ref r_37)] [(.int (1 : Int32))]))
    have hd50 : ¬ ((1 : Int32) = (0 : Int32)) := (by decide)
    refine own_st (fun _ k => XS.ifYes X49.here hx rfl (pc0 := 129) (pc' := 134) rfl (hb hby at_129) rfl ((if0 _ _).trans (feq hd50).2) (by decide) (by decide) k) ?_
    show own_Gl _ _ _ _ _ _ _ (T49.setTop (mkF m 134 #[.val (.int p1), .val (.int p2), .val (.int (1 : Int32)), .val (.ref b28), .val (.ref r_37)] []))
    refine own_st (fun _ k => XS.aload X49.here hx rfl (hb hby at_134) rfl rfl k) ?_
    show own_Gl _ _ _ _ _ _ _ (T49.setTop (mkF m 136 #[.val (.int p1), .val (.int p2), .val (.int (1 : Int32)), .val (.ref b28), .val (.ref r_37)] [(.ref r_37)]))
    refine own_st (fun _ k => XS.aloadN X49.here hx rfl (hb hby at_136) rfl rfl k) ?_
    show own_Gl _ _ _ _ _ _ _ (T49.setTop (mkF m 137 #[.val (.int p1), .val (.int p2), .val (.int (1 : Int32)), .val (.ref b28), .val (.ref r_37)] [(.ref b28), (.ref r_37)]))
    refine own_st (fun _ k => XS.iloadN X49.here hx rfl (hb hby at_137) rfl k) ?_
    show own_Gl _ _ _ _ _ _ _ (T49.setTop (mkF m 138 #[.val (.int p1), .val (.int p2), .val (.int (1 : Int32)), .val (.ref b28), .val (.ref r_37)] [(.int (1 : Int32)), (.ref b28), (.ref r_37)]))
    refine own_st (fun _ k => XS.iconst X49.here hx rfl (hb hby at_138) k) ?_
    show own_Gl _ _ _ _ _ _ _ (T49.setTop (mkF m 139 #[.val (.int p1), .val (.int p2), .val (.int (1 : Int32)), .val (.ref b28), .val (.ref r_37)] [(.int (3 : Int32)), (.int (1 : Int32)), (.ref b28), (.ref r_37)]))
    refine own_st (fun _ k => XS.iloadN X49.here hx rfl (hb hby at_139) rfl k) ?_
    show own_Gl _ _ _ _ _ _ _ (T49.setTop (mkF m 140 #[.val (.int p1), .val (.int p2), .val (.int (1 : Int32)), .val (.ref b28), .val (.ref r_37)] [(.int p2), (.int (3 : Int32)), (.int (1 : Int32)), (.ref b28), (.ref r_37)]))
    obtain ⟨_, _, ⟨T51, L51, k51, n51⟩, -, X51, ⟨Lc51, hQ51, l51, y51, z51⟩, st51⟩ := Jvm.LawKit.callS X49 hx (y := (⟨"com/example/assayline/assayline/protocol/MllpFramePinLaw", "slot", "([B[BIII)Z"⟩ : MethodName)) hown (mvT hZ (hw _ (List.mem_of_getElem? (i := 10) rfl))) (mvT hZ (hw _ (List.mem_of_getElem? (i := 11) rfl))) (mvT hZ (hw _ (List.mem_of_getElem? (i := 12) rfl))) (mvT hZ (hw _ (List.mem_of_getElem? (i := 13) rfl))) (by decide) (backOf (W := 0) (own_slot0 l Z a0 hw [] r_37 b28 (1 : Int32) (3 : Int32) p2 hh37 n0 Zs39 (by decide)) hZ (hw _ (List.mem_of_getElem? (i := 13) rfl)) (hw _ (List.mem_of_getElem? (i := 12) rfl)) (by decide) (by decide)) (g := (mkF m 140 #[.val (.int p1), .val (.int p2), .val (.int (1 : Int32)), .val (.ref b28), .val (.ref r_37)] [(.int p2), (.int (3 : Int32)), (.int (1 : Int32)), (.ref b28), (.ref r_37)])) rfl (by rw [hml]; rfl) (argsL := [(.ref r_37), (.ref b28), (.int (1 : Int32)), (.int (3 : Int32)), (.int p2)]) (rest := []) (lenOf own_pd585243724 rfl) rfl (by show 2 * 0 + _ ≤ _; exact Nat.le_of_eq rfl) (hb hby at_140) (fun _ _ => ⟨rfl, e49, (by decide : 2 + 0 ≤ room_1.cells), (by decide : 5 + 0 ≤ room_1.slots)⟩)
    dsimp only [Pt.U, Pt.locs, Pt.cells, Pt.slots] at X51 l51 y51 z51 st51 hQ51
    subst l51 y51 z51
    obtain ⟨hh51, eh051⟩ : ∃ z, T51.heap = z := ⟨_, rfl⟩
    rw [eh051] at hQ51
    obtain ⟨rfl, Nq51, eh51⟩ := hQ51
    have N51 := Fr.app N49 Nq51
    refine own_st st51 ?_
    have e51 : T51.heap = hh37 := eh051.trans eh51
    show own_Gl _ _ _ _ _ _ _ (T51.setTop (mkF m 143 #[.val (.int p1), .val (.int p2), .val (.int (1 : Int32)), .val (.ref b28), .val (.ref r_37)] [(.int (1 : Int32))]))
    have hd52 : ¬ ((1 : Int32) = (0 : Int32)) := (by decide)
    refine own_st (fun _ k => XS.ifYes X51.here hx rfl (pc0 := 143) (pc' := 148) rfl (hb hby at_143) rfl ((if0 _ _).trans (feq hd52).2) (by decide) (by decide) k) ?_
    show own_Gl _ _ _ _ _ _ _ (T51.setTop (mkF m 148 #[.val (.int p1), .val (.int p2), .val (.int (1 : Int32)), .val (.ref b28), .val (.ref r_37)] []))
    refine own_st (fun _ k => XS.aload X51.here hx rfl (hb hby at_148) rfl rfl k) ?_
    show own_Gl _ _ _ _ _ _ _ (T51.setTop (mkF m 150 #[.val (.int p1), .val (.int p2), .val (.int (1 : Int32)), .val (.ref b28), .val (.ref r_37)] [(.ref r_37)]))
    refine own_st (fun _ k => XS.iloadN X51.here hx rfl (hb hby at_150) rfl k) ?_
    show own_Gl _ _ _ _ _ _ _ (T51.setTop (mkF m 151 #[.val (.int p1), .val (.int p2), .val (.int (1 : Int32)), .val (.ref b28), .val (.ref r_37)] [(.int (1 : Int32)), (.ref r_37)]))
    refine own_st (fun _ k => XS.iconst X51.here hx rfl (hb hby at_151) k) ?_
    show own_Gl _ _ _ _ _ _ _ (T51.setTop (mkF m 152 #[.val (.int p1), .val (.int p2), .val (.int (1 : Int32)), .val (.ref b28), .val (.ref r_37)] [(.int (1 : Int32)), (.int (1 : Int32)), (.ref r_37)]))
    refine own_st (fun _ k => XS.iadd X51.here hx rfl (hb hby at_152) rfl k) ?_
    show own_Gl _ _ _ _ _ _ _ (T51.setTop (mkF m 153 #[.val (.int p1), .val (.int p2), .val (.int (1 : Int32)), .val (.ref b28), .val (.ref r_37)] [(.int (2 : Int32)), (.ref r_37)]))
    obtain ⟨cl53, Ar53, qq53, Ss53, Nn53, Hh53, Gg53⟩ := id P37_2
    have hin53 : ¬ ((2 : Int32) < 0 ∨ cl53.slots.size ≤ ((2 : Int32)).toNatClampNeg) := inb_of Ss53 ⟨by decide, by decide⟩
    have hat53 : cl53.slots[((2 : Int32)).toNatClampNeg]? = some (.int (nar .byte (28 : Int32))) := Hh53.at hin53 (rfl)
    refine own_st (X51.baloadBytes hx (j := (2 : Int32)) (v := (.int (nar .byte (28 : Int32)))) (by rw [e51]; exact Ar53.1) (State.isArrayOf_alike hZ.alike Ar53.2.1) Ar53.2.2 hin53 hat53 (g := (mkF m 153 #[.val (.int p1), .val (.int p2), .val (.int (1 : Int32)), .val (.ref b28), .val (.ref r_37)] [(.int (2 : Int32)), (.ref r_37)])) rfl rfl (hb hby at_153)) ?_
    show own_Gl _ _ _ _ _ _ _ (T51.setTop (mkF m 154 #[.val (.int p1), .val (.int p2), .val (.int (1 : Int32)), .val (.ref b28), .val (.ref r_37)] [(.int (nar .byte (28 : Int32)))]))
    refine own_st (fun _ k => XS.bipush X51.here hx rfl (hb hby at_154) k) ?_
    show own_Gl _ _ _ _ _ _ _ (T51.setTop (mkF m 156 #[.val (.int p1), .val (.int p2), .val (.int (1 : Int32)), .val (.ref b28), .val (.ref r_37)] [(.int (28 : Int32)), (.int (nar .byte (28 : Int32)))]))
    have hd54 : (nar .byte (28 : Int32)) = (28 : Int32) := (by decide)
    refine own_st (fun _ k => XS.icmpYes X51.here hx rfl (pc0 := 156) (pc' := 161) rfl (hb hby at_156) rfl (teq hd54).1 (by decide) (by decide) k) ?_
    show own_Gl _ _ _ _ _ _ _ (T51.setTop (mkF m 161 #[.val (.int p1), .val (.int p2), .val (.int (1 : Int32)), .val (.ref b28), .val (.ref r_37)] []))
    refine own_st (fun _ k => XS.aload X51.here hx rfl (hb hby at_161) rfl rfl k) ?_
    show own_Gl _ _ _ _ _ _ _ (T51.setTop (mkF m 163 #[.val (.int p1), .val (.int p2), .val (.int (1 : Int32)), .val (.ref b28), .val (.ref r_37)] [(.ref r_37)]))
    refine own_st (fun _ k => XS.iloadN X51.here hx rfl (hb hby at_163) rfl k) ?_
    show own_Gl _ _ _ _ _ _ _ (T51.setTop (mkF m 164 #[.val (.int p1), .val (.int p2), .val (.int (1 : Int32)), .val (.ref b28), .val (.ref r_37)] [(.int (1 : Int32)), (.ref r_37)]))
    refine own_st (fun _ k => XS.iconst X51.here hx rfl (hb hby at_164) k) ?_
    show own_Gl _ _ _ _ _ _ _ (T51.setTop (mkF m 165 #[.val (.int p1), .val (.int p2), .val (.int (1 : Int32)), .val (.ref b28), .val (.ref r_37)] [(.int (2 : Int32)), (.int (1 : Int32)), (.ref r_37)]))
    refine own_st (fun _ k => XS.iadd X51.here hx rfl (hb hby at_165) rfl k) ?_
    show own_Gl _ _ _ _ _ _ _ (T51.setTop (mkF m 166 #[.val (.int p1), .val (.int p2), .val (.int (1 : Int32)), .val (.ref b28), .val (.ref r_37)] [(.int (3 : Int32)), (.ref r_37)]))
    obtain ⟨cl55, Ar55, qq55, Ss55, Nn55, Hh55, Gg55⟩ := id P37_2
    have hin55 : ¬ ((3 : Int32) < 0 ∨ cl55.slots.size ≤ ((3 : Int32)).toNatClampNeg) := inb_of Ss55 ⟨by decide, by decide⟩
    have hat55 : cl55.slots[((3 : Int32)).toNatClampNeg]? = some (.int (nar .byte (13 : Int32))) := Hh55.at hin55 (rfl)
    refine own_st (X51.baloadBytes hx (j := (3 : Int32)) (v := (.int (nar .byte (13 : Int32)))) (by rw [e51]; exact Ar55.1) (State.isArrayOf_alike hZ.alike Ar55.2.1) Ar55.2.2 hin55 hat55 (g := (mkF m 166 #[.val (.int p1), .val (.int p2), .val (.int (1 : Int32)), .val (.ref b28), .val (.ref r_37)] [(.int (3 : Int32)), (.ref r_37)])) rfl rfl (hb hby at_166)) ?_
    show own_Gl _ _ _ _ _ _ _ (T51.setTop (mkF m 167 #[.val (.int p1), .val (.int p2), .val (.int (1 : Int32)), .val (.ref b28), .val (.ref r_37)] [(.int (nar .byte (13 : Int32)))]))
    refine own_st (fun _ k => XS.bipush X51.here hx rfl (hb hby at_167) k) ?_
    show own_Gl _ _ _ _ _ _ _ (T51.setTop (mkF m 169 #[.val (.int p1), .val (.int p2), .val (.int (1 : Int32)), .val (.ref b28), .val (.ref r_37)] [(.int (13 : Int32)), (.int (nar .byte (13 : Int32)))]))
    have hd56 : (nar .byte (13 : Int32)) = (13 : Int32) := (by decide)
    refine own_st (fun _ k => XS.icmpYes X51.here hx rfl (pc0 := 169) (pc' := 174) rfl (hb hby at_169) rfl (teq hd56).1 (by decide) (by decide) k) ?_
    show own_Gl _ _ _ _ _ _ _ (T51.setTop (mkF m 174 #[.val (.int p1), .val (.int p2), .val (.int (1 : Int32)), .val (.ref b28), .val (.ref r_37)] []))
    refine own_st (fun _ k => XS.iconst X51.here hx rfl (hb hby at_174) k) ?_
    show own_Gl _ _ _ _ _ _ _ (T51.setTop (mkF m 175 #[.val (.int p1), .val (.int p2), .val (.int (1 : Int32)), .val (.ref b28), .val (.ref r_37)] [(.int (1 : Int32))]))
    exact own_retN X51 hx hlk (t := .boolean) hret (by simp) (hb hby at_175) e51 ⟨rfl, N51⟩ (by decide) (by decide)
  · rw [hk]
    show own_Gl _ _ _ _ _ _ _ (s₁.setTop (mkF m 7 #[.val (.int p1), .val (.int p2), .val (.int (2 : Int32)), .unset, .unset] []))
    refine own_st (fun _ k => XS.iloadN X0.here hx rfl (hb hby at_7) rfl k) ?_
    show own_Gl _ _ _ _ _ _ _ (s₁.setTop (mkF m 8 #[.val (.int p1), .val (.int p2), .val (.int (2 : Int32)), .unset, .unset] [(.int (2 : Int32))]))
    obtain ⟨T57, h57, k57, X57, e57, E57, A57, st57⟩ := newP X0 hx hZ (hw _ (List.mem_of_getElem? (i := 1) rfl)) e0 (g := (mkF m 8 #[.val (.int p1), .val (.int p2), .val (.int (2 : Int32)), .unset, .unset] [(.int (2 : Int32))])) rfl (hb hby at_8) rfl (by decide) (cap := 2) (by decide) (by decide) (by decide) (by decide)
    obtain ⟨b57, gb57⟩ : ∃ z, z = h0.size := ⟨_, rfl⟩
    rw [← gb57] at A57 st57
    refine own_st st57 ?_
    have Zs58 : n0 ≤ h57.size := Nat.le_trans Z0 E57.1
    have g_b57 : n0 ≤ b57 := Nat.le_trans Z0 (Nat.le_of_eq gb57.symm)
    have gh_b57 : h0.size ≤ b57 := Nat.le_trans (Keep.refl h0 []).1 (Nat.le_of_eq gb57.symm)
    have V_b57 : Arv Z h57 b57 k57 .byte (2 : Int32) [(.int (0 : Int32)), (.int (0 : Int32))] (.int (0 : Int32)) := (Arv.new A57 (by decide)).pad (pad_rep [] (.int (0 : Int32)) 2)
    show own_Gl _ _ _ _ _ _ _ (T57.setTop (mkF m 10 #[.val (.int p1), .val (.int p2), .val (.int (2 : Int32)), .unset, .unset] [(.ref b57)]))
    refine own_st (fun _ k => XS.astoreN X57.here hx rfl (hb hby at_10) rfl rfl (l' := #[.val (.int p1), .val (.int p2), .val (.int (2 : Int32)), .val (.ref b57), .unset]) rfl k) ?_
    show own_Gl _ _ _ _ _ _ _ (T57.setTop (mkF m 11 #[.val (.int p1), .val (.int p2), .val (.int (2 : Int32)), .val (.ref b57), .unset] []))
    refine own_st (fun _ k => XS.iloadN X57.here hx rfl (hb hby at_11) rfl k) ?_
    show own_Gl _ _ _ _ _ _ _ (T57.setTop (mkF m 12 #[.val (.int p1), .val (.int p2), .val (.int (2 : Int32)), .val (.ref b57), .unset] [(.int (2 : Int32))]))
    have hd60 : (0 : Int32) < (2 : Int32) := (by decide)
    refine own_st (fun _ k => XS.ifNo X57.here hx rfl (hb hby at_12) rfl ((if0 _ _).trans (tlt hd60).2.2.2) k) ?_
    show own_Gl _ _ _ _ _ _ _ (T57.setTop (mkF m 15 #[.val (.int p1), .val (.int p2), .val (.int (2 : Int32)), .val (.ref b57), .unset] []))
    refine own_st (fun _ k => XS.aloadN X57.here hx rfl (hb hby at_15) rfl rfl k) ?_
    show own_Gl _ _ _ _ _ _ _ (T57.setTop (mkF m 16 #[.val (.int p1), .val (.int p2), .val (.int (2 : Int32)), .val (.ref b57), .unset] [(.ref b57)]))
    refine own_st (fun _ k => XS.iconst X57.here hx rfl (hb hby at_16) k) ?_
    show own_Gl _ _ _ _ _ _ _ (T57.setTop (mkF m 17 #[.val (.int p1), .val (.int p2), .val (.int (2 : Int32)), .val (.ref b57), .unset] [(.int (0 : Int32)), (.ref b57)]))
    refine own_st (fun _ k => XS.iloadN X57.here hx rfl (hb hby at_17) rfl k) ?_
    show own_Gl _ _ _ _ _ _ _ (T57.setTop (mkF m 18 #[.val (.int p1), .val (.int p2), .val (.int (2 : Int32)), .val (.ref b57), .unset] [(.int p2), (.int (0 : Int32)), (.ref b57)]))
    refine own_st (fun _ k => XS.i2b X57.here hx rfl (hb hby at_18) rfl k) ?_
    show own_Gl _ _ _ _ _ _ _ (T57.setTop (mkF m 19 #[.val (.int p1), .val (.int p2), .val (.int (2 : Int32)), .val (.ref b57), .unset] [(.int (p2.toInt8.toInt32)), (.int (0 : Int32)), (.ref b57)]))
    obtain ⟨cl61, Ar61, qq61, Ss61, Nn61, Hh61, Gg61⟩ := id V_b57
    have hin61 : ¬ ((0 : Int32) < 0 ∨ cl61.slots.size ≤ ((0 : Int32)).toNatClampNeg) := inb_of Ss61 ⟨by decide, by decide⟩
    obtain ⟨T61, h61, X61, e61, W61, st61⟩ := stB X57 hx hZ e57 Ar61 (j := (0 : Int32)) hin61 (g := (mkF m 19 #[.val (.int p1), .val (.int p2), .val (.int (2 : Int32)), .val (.ref b57), .unset] [(.int (p2.toInt8.toInt32)), (.int (0 : Int32)), (.ref b57)])) rfl rfl (hb hby at_19)
    have N61 := Fr.snoc X61 N0 g_b57
    refine own_st st61 ?_
    have Zs62 : n0 ≤ h61.size := Nat.le_trans Zs58 (Keep.of_wr W61).1
    have Vw61 : Arv Z h61 b57 k57 .byte (2 : Int32) [(.int (nar .byte (p2.toInt8.toInt32))), (.int (0 : Int32))] (.int (0 : Int32)) := Arv.set Ar61 qq61 Ss61 Nn61 Hh61 Gg61 (fits_nar_byte _) W61 0 (rfl) (Nat.le_of_ble_eq_true rfl)
    show own_Gl _ _ _ _ _ _ _ (T61.setTop (mkF m 20 #[.val (.int p1), .val (.int p2), .val (.int (2 : Int32)), .val (.ref b57), .unset] []))
    refine own_st (fun _ k => XS.iloadN X61.here hx rfl (hb hby at_20) rfl k) ?_
    show own_Gl _ _ _ _ _ _ _ (T61.setTop (mkF m 21 #[.val (.int p1), .val (.int p2), .val (.int (2 : Int32)), .val (.ref b57), .unset] [(.int (2 : Int32))]))
    refine own_st (fun _ k => XS.iconst X61.here hx rfl (hb hby at_21) k) ?_
    show own_Gl _ _ _ _ _ _ _ (T61.setTop (mkF m 22 #[.val (.int p1), .val (.int p2), .val (.int (2 : Int32)), .val (.ref b57), .unset] [(.int (1 : Int32)), (.int (2 : Int32))]))
    have hd63 : (1 : Int32) < (2 : Int32) := (by decide)
    refine own_st (fun _ k => XS.icmpNo X61.here hx rfl (hb hby at_22) rfl (tlt hd63).2.2.2 k) ?_
    show own_Gl _ _ _ _ _ _ _ (T61.setTop (mkF m 25 #[.val (.int p1), .val (.int p2), .val (.int (2 : Int32)), .val (.ref b57), .unset] []))
    refine own_st (fun _ k => XS.aloadN X61.here hx rfl (hb hby at_25) rfl rfl k) ?_
    show own_Gl _ _ _ _ _ _ _ (T61.setTop (mkF m 26 #[.val (.int p1), .val (.int p2), .val (.int (2 : Int32)), .val (.ref b57), .unset] [(.ref b57)]))
    refine own_st (fun _ k => XS.iconst X61.here hx rfl (hb hby at_26) k) ?_
    show own_Gl _ _ _ _ _ _ _ (T61.setTop (mkF m 27 #[.val (.int p1), .val (.int p2), .val (.int (2 : Int32)), .val (.ref b57), .unset] [(.int (1 : Int32)), (.ref b57)]))
    refine own_st (fun _ k => XS.iloadN X61.here hx rfl (hb hby at_27) rfl k) ?_
    show own_Gl _ _ _ _ _ _ _ (T61.setTop (mkF m 28 #[.val (.int p1), .val (.int p2), .val (.int (2 : Int32)), .val (.ref b57), .unset] [(.int p2), (.int (1 : Int32)), (.ref b57)]))
    refine own_st (fun _ k => XS.bipush X61.here hx rfl (hb hby at_28) k) ?_
    show own_Gl _ _ _ _ _ _ _ (T61.setTop (mkF m 30 #[.val (.int p1), .val (.int p2), .val (.int (2 : Int32)), .val (.ref b57), .unset] [(.int (8 : Int32)), (.int p2), (.int (1 : Int32)), (.ref b57)]))
    refine own_st (fun _ k => XS.iushr X61.here hx rfl (hb hby at_30) rfl k) ?_
    show own_Gl _ _ _ _ _ _ _ (T61.setTop (mkF m 31 #[.val (.int p1), .val (.int p2), .val (.int (2 : Int32)), .val (.ref b57), .unset] [(.int ((p2.toUInt32 >>> ((8 : Int32) &&& 31).toUInt32).toInt32)), (.int (1 : Int32)), (.ref b57)]))
    refine own_st (fun _ k => XS.i2b X61.here hx rfl (hb hby at_31) rfl k) ?_
    show own_Gl _ _ _ _ _ _ _ (T61.setTop (mkF m 32 #[.val (.int p1), .val (.int p2), .val (.int (2 : Int32)), .val (.ref b57), .unset] [(.int (((p2.toUInt32 >>> ((8 : Int32) &&& 31).toUInt32).toInt32).toInt8.toInt32)), (.int (1 : Int32)), (.ref b57)]))
    obtain ⟨cl64, Ar64, qq64, Ss64, Nn64, Hh64, Gg64⟩ := id Vw61
    have hin64 : ¬ ((1 : Int32) < 0 ∨ cl64.slots.size ≤ ((1 : Int32)).toNatClampNeg) := inb_of Ss64 ⟨by decide, by decide⟩
    obtain ⟨T64, h64, X64, e64, W64, st64⟩ := stB X61 hx hZ e61 Ar64 (j := (1 : Int32)) hin64 (g := (mkF m 32 #[.val (.int p1), .val (.int p2), .val (.int (2 : Int32)), .val (.ref b57), .unset] [(.int (((p2.toUInt32 >>> ((8 : Int32) &&& 31).toUInt32).toInt32).toInt8.toInt32)), (.int (1 : Int32)), (.ref b57)])) rfl rfl (hb hby at_32)
    have N64 := Fr.snoc X64 N61 g_b57
    refine own_st st64 ?_
    have Zs65 : n0 ≤ h64.size := Nat.le_trans Zs62 (Keep.of_wr W64).1
    have Vw64 : Arv Z h64 b57 k57 .byte (2 : Int32) [(.int (nar .byte (p2.toInt8.toInt32))), (.int (nar .byte (((p2.toUInt32 >>> ((8 : Int32) &&& 31).toUInt32).toInt32).toInt8.toInt32)))] (.int (0 : Int32)) := Arv.set Ar64 qq64 Ss64 Nn64 Hh64 Gg64 (fits_nar_byte _) W64 1 (rfl) (Nat.le_of_ble_eq_true rfl)
    show own_Gl _ _ _ _ _ _ _ (T64.setTop (mkF m 33 #[.val (.int p1), .val (.int p2), .val (.int (2 : Int32)), .val (.ref b57), .unset] []))
    refine own_st (fun _ k => XS.iloadN X64.here hx rfl (hb hby at_33) rfl k) ?_
    show own_Gl _ _ _ _ _ _ _ (T64.setTop (mkF m 34 #[.val (.int p1), .val (.int p2), .val (.int (2 : Int32)), .val (.ref b57), .unset] [(.int (2 : Int32))]))
    refine own_st (fun _ k => XS.iconst X64.here hx rfl (hb hby at_34) k) ?_
    show own_Gl _ _ _ _ _ _ _ (T64.setTop (mkF m 35 #[.val (.int p1), .val (.int p2), .val (.int (2 : Int32)), .val (.ref b57), .unset] [(.int (2 : Int32)), (.int (2 : Int32))]))
    have hd66 : ¬ ((2 : Int32) < (2 : Int32)) := (by decide)
    refine own_st (fun _ k => XS.icmpYes X64.here hx rfl (pc0 := 35) (pc' := 46) rfl (hb hby at_35) rfl (flt hd66).2.2.2 (by decide) (by decide) k) ?_
    show own_Gl _ _ _ _ _ _ _ (T64.setTop (mkF m 46 #[.val (.int p1), .val (.int p2), .val (.int (2 : Int32)), .val (.ref b57), .unset] []))
    refine own_st (fun _ k => XS.iloadN X64.here hx rfl (hb hby at_46) rfl k) ?_
    show own_Gl _ _ _ _ _ _ _ (T64.setTop (mkF m 47 #[.val (.int p1), .val (.int p2), .val (.int (2 : Int32)), .val (.ref b57), .unset] [(.int (2 : Int32))]))
    refine own_st (fun _ k => XS.iconst X64.here hx rfl (hb hby at_47) k) ?_
    show own_Gl _ _ _ _ _ _ _ (T64.setTop (mkF m 48 #[.val (.int p1), .val (.int p2), .val (.int (2 : Int32)), .val (.ref b57), .unset] [(.int (3 : Int32)), (.int (2 : Int32))]))
    have hd67 : ¬ ((3 : Int32) < (2 : Int32)) := (by decide)
    refine own_st (fun _ k => XS.icmpYes X64.here hx rfl (pc0 := 48) (pc' := 59) rfl (hb hby at_48) rfl (flt hd67).2.2.2 (by decide) (by decide) k) ?_
    show own_Gl _ _ _ _ _ _ _ (T64.setTop (mkF m 59 #[.val (.int p1), .val (.int p2), .val (.int (2 : Int32)), .val (.ref b57), .unset] []))
    refine own_st (fun _ k => XS.aloadN X64.here hx rfl (hb hby at_59) rfl rfl k) ?_
    show own_Gl _ _ _ _ _ _ _ (T64.setTop (mkF m 60 #[.val (.int p1), .val (.int p2), .val (.int (2 : Int32)), .val (.ref b57), .unset] [(.ref b57)]))
    obtain ⟨_, _, ⟨T68, L68, k68, n68⟩, -, X68, ⟨Lc68, hQ68, l68, y68, z68⟩, st68⟩ := Jvm.LawKit.callS X64 hx (y := (⟨"com/example/assayline/assayline/protocol/Mllp", "frame", "([B)[B"⟩ : MethodName)) hown (mvT hZ (hw _ (List.mem_of_getElem? (i := 2) rfl))) (mvT hZ (hw _ (List.mem_of_getElem? (i := 3) rfl))) (mvT hZ (hw _ (List.mem_of_getElem? (i := 4) rfl))) (mvT hZ (hw _ (List.mem_of_getElem? (i := 5) rfl))) (by decide) (backOf (W := 0) (own_frame2 l Z a0 hw [] b57 k57 (nar .byte (p2.toInt8.toInt32)) (nar .byte (((p2.toUInt32 >>> ((8 : Int32) &&& 31).toUInt32).toInt32).toInt8.toInt32)) h64 n0 Zs65 Vw64) hZ (hw _ (List.mem_of_getElem? (i := 5) rfl)) (hw _ (List.mem_of_getElem? (i := 4) rfl)) (by decide) (by decide)) (g := (mkF m 60 #[.val (.int p1), .val (.int p2), .val (.int (2 : Int32)), .val (.ref b57), .unset] [(.ref b57)])) rfl (by rw [hml]; rfl) (argsL := [(.ref b57)]) (rest := []) (lenOf own_pd128168445 rfl) rfl (by show 2 * 0 + _ ≤ _; exact Nat.le_of_eq rfl) (hb hby at_60) (fun _ _ => ⟨rfl, e64, (by decide : 1 + 1 ≤ room_1.cells), (by decide : 2 + 5 ≤ room_1.slots)⟩)
    dsimp only [Pt.U, Pt.locs, Pt.cells, Pt.slots] at X68 l68 y68 z68 st68 hQ68
    subst l68 y68 z68
    obtain ⟨hh68, eh068⟩ : ∃ z, T68.heap = z := ⟨_, rfl⟩
    rw [eh068] at hQ68
    obtain ⟨r_68, kr_68, rfl, Nq68, Kq68, P68_0, P68_1, P68_2⟩ := hQ68
    have N68 := Fr.app N64 Nq68
    refine own_st st68 ?_
    have K69 : Keep h0 h64 [] := ((((Keep.refl h0 []).ext E57).wr W61 (Or.inr gh_b57)).wr W64 (Or.inr gh_b57))
    have Zs70 : n0 ≤ hh68.size := Nat.le_trans Zs65 Kq68.1
    have gh_r_68 : h0.size ≤ r_68 := Nat.le_trans K69.1 P68_1
    have ne_b57_r_68 : b57 ≠ r_68 := Nat.ne_of_lt (Nat.lt_of_lt_of_le Vw64.lt P68_1)
    show own_Gl _ _ _ _ _ _ _ (T68.setTop (mkF m 63 #[.val (.int p1), .val (.int p2), .val (.int (2 : Int32)), .val (.ref b57), .unset] [(.ref r_68)]))
    refine own_st (fun _ k => XS.astore X68.here hx rfl (hb hby at_63) rfl rfl (l' := #[.val (.int p1), .val (.int p2), .val (.int (2 : Int32)), .val (.ref b57), .val (.ref r_68)]) rfl k) ?_
    show own_Gl _ _ _ _ _ _ _ (T68.setTop (mkF m 65 #[.val (.int p1), .val (.int p2), .val (.int (2 : Int32)), .val (.ref b57), .val (.ref r_68)] []))
    refine own_st (fun _ k => XS.aload X68.here hx rfl (hb hby at_65) rfl rfl k) ?_
    show own_Gl _ _ _ _ _ _ _ (T68.setTop (mkF m 67 #[.val (.int p1), .val (.int p2), .val (.int (2 : Int32)), .val (.ref b57), .val (.ref r_68)] [(.ref r_68)]))
    refine own_st (fun _ k => XS.ifnullNo X68.here hx rfl (hb hby at_67) rfl k) ?_
    show own_Gl _ _ _ _ _ _ _ (T68.setTop (mkF m 70 #[.val (.int p1), .val (.int p2), .val (.int (2 : Int32)), .val (.ref b57), .val (.ref r_68)] []))
    refine own_st (fun _ k => XS.aload X68.here hx rfl (hb hby at_70) rfl rfl k) ?_
    show own_Gl _ _ _ _ _ _ _ (T68.setTop (mkF m 72 #[.val (.int p1), .val (.int p2), .val (.int (2 : Int32)), .val (.ref b57), .val (.ref r_68)] [(.ref r_68)]))
    obtain ⟨cl71, Ar71, qq71, Ss71, Nn71, Hh71, Gg71⟩ := id P68_2
    refine own_st (X68.arraylength hx (by rw [eh068]; exact Ar71.1) (State.isArrayOf_alike hZ.alike Ar71.2.1) (g := (mkF m 72 #[.val (.int p1), .val (.int p2), .val (.int (2 : Int32)), .val (.ref b57), .val (.ref r_68)] [(.ref r_68)])) rfl rfl (hb hby at_72)) ?_
    rw [len_of Ss71 Nn71]
    show own_Gl _ _ _ _ _ _ _ (T68.setTop (mkF m 73 #[.val (.int p1), .val (.int p2), .val (.int (2 : Int32)), .val (.ref b57), .val (.ref r_68)] [(.int (5 : Int32))]))
    refine own_st (fun _ k => XS.iloadN X68.here hx rfl (hb hby at_73) rfl k) ?_
    show own_Gl _ _ _ _ _ _ _ (T68.setTop (mkF m 74 #[.val (.int p1), .val (.int p2), .val (.int (2 : Int32)), .val (.ref b57), .val (.ref r_68)] [(.int (2 : Int32)), (.int (5 : Int32))]))
    refine own_st (fun _ k => XS.iconst X68.here hx rfl (hb hby at_74) k) ?_
    show own_Gl _ _ _ _ _ _ _ (T68.setTop (mkF m 75 #[.val (.int p1), .val (.int p2), .val (.int (2 : Int32)), .val (.ref b57), .val (.ref r_68)] [(.int (3 : Int32)), (.int (2 : Int32)), (.int (5 : Int32))]))
    refine own_st (fun _ k => XS.iadd X68.here hx rfl (hb hby at_75) rfl k) ?_
    show own_Gl _ _ _ _ _ _ _ (T68.setTop (mkF m 76 #[.val (.int p1), .val (.int p2), .val (.int (2 : Int32)), .val (.ref b57), .val (.ref r_68)] [(.int (5 : Int32)), (.int (5 : Int32))]))
    have hd72 : (5 : Int32) = (5 : Int32) := (by decide)
    refine own_st (fun _ k => XS.icmpYes X68.here hx rfl (pc0 := 76) (pc' := 81) rfl (hb hby at_76) rfl (teq hd72).1 (by decide) (by decide) k) ?_
    show own_Gl _ _ _ _ _ _ _ (T68.setTop (mkF m 81 #[.val (.int p1), .val (.int p2), .val (.int (2 : Int32)), .val (.ref b57), .val (.ref r_68)] []))
    refine own_st (fun _ k => XS.aload X68.here hx rfl (hb hby at_81) rfl rfl k) ?_
    show own_Gl _ _ _ _ _ _ _ (T68.setTop (mkF m 83 #[.val (.int p1), .val (.int p2), .val (.int (2 : Int32)), .val (.ref b57), .val (.ref r_68)] [(.ref r_68)]))
    refine own_st (fun _ k => XS.iconst X68.here hx rfl (hb hby at_83) k) ?_
    show own_Gl _ _ _ _ _ _ _ (T68.setTop (mkF m 84 #[.val (.int p1), .val (.int p2), .val (.int (2 : Int32)), .val (.ref b57), .val (.ref r_68)] [(.int (0 : Int32)), (.ref r_68)]))
    obtain ⟨cl73, Ar73, qq73, Ss73, Nn73, Hh73, Gg73⟩ := id P68_2
    have hin73 : ¬ ((0 : Int32) < 0 ∨ cl73.slots.size ≤ ((0 : Int32)).toNatClampNeg) := inb_of Ss73 ⟨by decide, by decide⟩
    have hat73 : cl73.slots[((0 : Int32)).toNatClampNeg]? = some (.int (nar .byte (11 : Int32))) := Hh73.at hin73 (rfl)
    refine own_st (X68.baloadBytes hx (j := (0 : Int32)) (v := (.int (nar .byte (11 : Int32)))) (by rw [eh068]; exact Ar73.1) (State.isArrayOf_alike hZ.alike Ar73.2.1) Ar73.2.2 hin73 hat73 (g := (mkF m 84 #[.val (.int p1), .val (.int p2), .val (.int (2 : Int32)), .val (.ref b57), .val (.ref r_68)] [(.int (0 : Int32)), (.ref r_68)])) rfl rfl (hb hby at_84)) ?_
    show own_Gl _ _ _ _ _ _ _ (T68.setTop (mkF m 85 #[.val (.int p1), .val (.int p2), .val (.int (2 : Int32)), .val (.ref b57), .val (.ref r_68)] [(.int (nar .byte (11 : Int32)))]))
    refine own_st (fun _ k => XS.bipush X68.here hx rfl (hb hby at_85) k) ?_
    show own_Gl _ _ _ _ _ _ _ (T68.setTop (mkF m 87 #[.val (.int p1), .val (.int p2), .val (.int (2 : Int32)), .val (.ref b57), .val (.ref r_68)] [(.int (11 : Int32)), (.int (nar .byte (11 : Int32)))]))
    have hd74 : (nar .byte (11 : Int32)) = (11 : Int32) := (by decide)
    refine own_st (fun _ k => XS.icmpYes X68.here hx rfl (pc0 := 87) (pc' := 92) rfl (hb hby at_87) rfl (teq hd74).1 (by decide) (by decide) k) ?_
    show own_Gl _ _ _ _ _ _ _ (T68.setTop (mkF m 92 #[.val (.int p1), .val (.int p2), .val (.int (2 : Int32)), .val (.ref b57), .val (.ref r_68)] []))
    refine own_st (fun _ k => XS.aload X68.here hx rfl (hb hby at_92) rfl rfl k) ?_
    show own_Gl _ _ _ _ _ _ _ (T68.setTop (mkF m 94 #[.val (.int p1), .val (.int p2), .val (.int (2 : Int32)), .val (.ref b57), .val (.ref r_68)] [(.ref r_68)]))
    refine own_st (fun _ k => XS.aloadN X68.here hx rfl (hb hby at_94) rfl rfl k) ?_
    show own_Gl _ _ _ _ _ _ _ (T68.setTop (mkF m 95 #[.val (.int p1), .val (.int p2), .val (.int (2 : Int32)), .val (.ref b57), .val (.ref r_68)] [(.ref b57), (.ref r_68)]))
    refine own_st (fun _ k => XS.iloadN X68.here hx rfl (hb hby at_95) rfl k) ?_
    show own_Gl _ _ _ _ _ _ _ (T68.setTop (mkF m 96 #[.val (.int p1), .val (.int p2), .val (.int (2 : Int32)), .val (.ref b57), .val (.ref r_68)] [(.int (2 : Int32)), (.ref b57), (.ref r_68)]))
    refine own_st (fun _ k => XS.iconst X68.here hx rfl (hb hby at_96) k) ?_
    show own_Gl _ _ _ _ _ _ _ (T68.setTop (mkF m 97 #[.val (.int p1), .val (.int p2), .val (.int (2 : Int32)), .val (.ref b57), .val (.ref r_68)] [(.int (0 : Int32)), (.int (2 : Int32)), (.ref b57), (.ref r_68)]))
    refine own_st (fun _ k => XS.iloadN X68.here hx rfl (hb hby at_97) rfl k) ?_
    show own_Gl _ _ _ _ _ _ _ (T68.setTop (mkF m 98 #[.val (.int p1), .val (.int p2), .val (.int (2 : Int32)), .val (.ref b57), .val (.ref r_68)] [(.int p2), (.int (0 : Int32)), (.int (2 : Int32)), (.ref b57), (.ref r_68)]))
    have f76 := (Vw64.keep Kq68 nin0)
    obtain ⟨_, _, ⟨T75, L75, k75, n75⟩, -, X75, ⟨Lc75, hQ75, l75, y75, z75⟩, st75⟩ := Jvm.LawKit.callS X68 hx (y := (⟨"com/example/assayline/assayline/protocol/MllpFramePinLaw", "slot", "([B[BIII)Z"⟩ : MethodName)) hown (mvT hZ (hw _ (List.mem_of_getElem? (i := 10) rfl))) (mvT hZ (hw _ (List.mem_of_getElem? (i := 11) rfl))) (mvT hZ (hw _ (List.mem_of_getElem? (i := 12) rfl))) (mvT hZ (hw _ (List.mem_of_getElem? (i := 13) rfl))) (by decide) (backOf (W := 0) (own_slot1 l Z a0 hw [] r_68 b57 (2 : Int32) (0 : Int32) p2 kr_68 k57 (5 : Int32) (2 : Int32) [(.int (nar .byte (11 : Int32))), (.int (nar .byte (p2.toInt8.toInt32))), (.int (nar .byte (((p2.toUInt32 >>> ((8 : Int32) &&& 31).toUInt32).toInt32).toInt8.toInt32))), (.int (nar .byte (28 : Int32))), (.int (nar .byte (13 : Int32)))] [(.int (nar .byte (p2.toInt8.toInt32))), (.int (nar .byte (((p2.toUInt32 >>> ((8 : Int32) &&& 31).toUInt32).toInt32).toInt8.toInt32)))] hh68 n0 Zs70 P68_2 f76 (by decide) ⟨by decide, by decide⟩ ⟨by decide, by decide⟩ (own_w0 p2) (own_w0 p2)) hZ (hw _ (List.mem_of_getElem? (i := 13) rfl)) (hw _ (List.mem_of_getElem? (i := 12) rfl)) (by decide) (by decide)) (g := (mkF m 98 #[.val (.int p1), .val (.int p2), .val (.int (2 : Int32)), .val (.ref b57), .val (.ref r_68)] [(.int p2), (.int (0 : Int32)), (.int (2 : Int32)), (.ref b57), (.ref r_68)])) rfl (by rw [hml]; rfl) (argsL := [(.ref r_68), (.ref b57), (.int (2 : Int32)), (.int (0 : Int32)), (.int p2)]) (rest := []) (lenOf own_pd585243724 rfl) rfl (by show 2 * 0 + _ ≤ _; exact Nat.le_of_eq rfl) (hb hby at_98) (fun _ _ => ⟨rfl, eh068, (by decide : 2 + 0 ≤ room_1.cells), (by decide : 7 + 0 ≤ room_1.slots)⟩)
    dsimp only [Pt.U, Pt.locs, Pt.cells, Pt.slots] at X75 l75 y75 z75 st75 hQ75
    subst l75 y75 z75
    obtain ⟨hh75, eh075⟩ : ∃ z, T75.heap = z := ⟨_, rfl⟩
    rw [eh075] at hQ75
    obtain ⟨rfl, Nq75, eh75⟩ := hQ75
    have N75 := Fr.app N68 Nq75
    refine own_st st75 ?_
    have e75 : T75.heap = hh68 := eh075.trans eh75
    show own_Gl _ _ _ _ _ _ _ (T75.setTop (mkF m 101 #[.val (.int p1), .val (.int p2), .val (.int (2 : Int32)), .val (.ref b57), .val (.ref r_68)] [(.int (1 : Int32))]))
    have hd77 : ¬ ((1 : Int32) = (0 : Int32)) := (by decide)
    refine own_st (fun _ k => XS.ifYes X75.here hx rfl (pc0 := 101) (pc' := 106) rfl (hb hby at_101) rfl ((if0 _ _).trans (feq hd77).2) (by decide) (by decide) k) ?_
    show own_Gl _ _ _ _ _ _ _ (T75.setTop (mkF m 106 #[.val (.int p1), .val (.int p2), .val (.int (2 : Int32)), .val (.ref b57), .val (.ref r_68)] []))
    refine own_st (fun _ k => XS.aload X75.here hx rfl (hb hby at_106) rfl rfl k) ?_
    show own_Gl _ _ _ _ _ _ _ (T75.setTop (mkF m 108 #[.val (.int p1), .val (.int p2), .val (.int (2 : Int32)), .val (.ref b57), .val (.ref r_68)] [(.ref r_68)]))
    refine own_st (fun _ k => XS.aloadN X75.here hx rfl (hb hby at_108) rfl rfl k) ?_
    show own_Gl _ _ _ _ _ _ _ (T75.setTop (mkF m 109 #[.val (.int p1), .val (.int p2), .val (.int (2 : Int32)), .val (.ref b57), .val (.ref r_68)] [(.ref b57), (.ref r_68)]))
    refine own_st (fun _ k => XS.iloadN X75.here hx rfl (hb hby at_109) rfl k) ?_
    show own_Gl _ _ _ _ _ _ _ (T75.setTop (mkF m 110 #[.val (.int p1), .val (.int p2), .val (.int (2 : Int32)), .val (.ref b57), .val (.ref r_68)] [(.int (2 : Int32)), (.ref b57), (.ref r_68)]))
    refine own_st (fun _ k => XS.iconst X75.here hx rfl (hb hby at_110) k) ?_
    show own_Gl _ _ _ _ _ _ _ (T75.setTop (mkF m 111 #[.val (.int p1), .val (.int p2), .val (.int (2 : Int32)), .val (.ref b57), .val (.ref r_68)] [(.int (1 : Int32)), (.int (2 : Int32)), (.ref b57), (.ref r_68)]))
    refine own_st (fun _ k => XS.iloadN X75.here hx rfl (hb hby at_111) rfl k) ?_
    show own_Gl _ _ _ _ _ _ _ (T75.setTop (mkF m 112 #[.val (.int p1), .val (.int p2), .val (.int (2 : Int32)), .val (.ref b57), .val (.ref r_68)] [(.int p2), (.int (1 : Int32)), (.int (2 : Int32)), (.ref b57), (.ref r_68)]))
    obtain ⟨_, _, ⟨T78, L78, k78, n78⟩, -, X78, ⟨Lc78, hQ78, l78, y78, z78⟩, st78⟩ := Jvm.LawKit.callS X75 hx (y := (⟨"com/example/assayline/assayline/protocol/MllpFramePinLaw", "slot", "([B[BIII)Z"⟩ : MethodName)) hown (mvT hZ (hw _ (List.mem_of_getElem? (i := 10) rfl))) (mvT hZ (hw _ (List.mem_of_getElem? (i := 11) rfl))) (mvT hZ (hw _ (List.mem_of_getElem? (i := 12) rfl))) (mvT hZ (hw _ (List.mem_of_getElem? (i := 13) rfl))) (by decide) (backOf (W := 0) (own_slot1 l Z a0 hw [] r_68 b57 (2 : Int32) (1 : Int32) p2 kr_68 k57 (5 : Int32) (2 : Int32) [(.int (nar .byte (11 : Int32))), (.int (nar .byte (p2.toInt8.toInt32))), (.int (nar .byte (((p2.toUInt32 >>> ((8 : Int32) &&& 31).toUInt32).toInt32).toInt8.toInt32))), (.int (nar .byte (28 : Int32))), (.int (nar .byte (13 : Int32)))] [(.int (nar .byte (p2.toInt8.toInt32))), (.int (nar .byte (((p2.toUInt32 >>> ((8 : Int32) &&& 31).toUInt32).toInt32).toInt8.toInt32)))] hh68 n0 Zs70 P68_2 f76 (by decide) ⟨by decide, by decide⟩ ⟨by decide, by decide⟩ (own_w1 p2) (own_w1 p2)) hZ (hw _ (List.mem_of_getElem? (i := 13) rfl)) (hw _ (List.mem_of_getElem? (i := 12) rfl)) (by decide) (by decide)) (g := (mkF m 112 #[.val (.int p1), .val (.int p2), .val (.int (2 : Int32)), .val (.ref b57), .val (.ref r_68)] [(.int p2), (.int (1 : Int32)), (.int (2 : Int32)), (.ref b57), (.ref r_68)])) rfl (by rw [hml]; rfl) (argsL := [(.ref r_68), (.ref b57), (.int (2 : Int32)), (.int (1 : Int32)), (.int p2)]) (rest := []) (lenOf own_pd585243724 rfl) rfl (by show 2 * 0 + _ ≤ _; exact Nat.le_of_eq rfl) (hb hby at_112) (fun _ _ => ⟨rfl, e75, (by decide : 2 + 0 ≤ room_1.cells), (by decide : 7 + 0 ≤ room_1.slots)⟩)
    dsimp only [Pt.U, Pt.locs, Pt.cells, Pt.slots] at X78 l78 y78 z78 st78 hQ78
    subst l78 y78 z78
    obtain ⟨hh78, eh078⟩ : ∃ z, T78.heap = z := ⟨_, rfl⟩
    rw [eh078] at hQ78
    obtain ⟨rfl, Nq78, eh78⟩ := hQ78
    have N78 := Fr.app N75 Nq78
    refine own_st st78 ?_
    have e78 : T78.heap = hh68 := eh078.trans eh78
    show own_Gl _ _ _ _ _ _ _ (T78.setTop (mkF m 115 #[.val (.int p1), .val (.int p2), .val (.int (2 : Int32)), .val (.ref b57), .val (.ref r_68)] [(.int (1 : Int32))]))
    have hd79 : ¬ ((1 : Int32) = (0 : Int32)) := (by decide)
    refine own_st (fun _ k => XS.ifYes X78.here hx rfl (pc0 := 115) (pc' := 120) rfl (hb hby at_115) rfl ((if0 _ _).trans (feq hd79).2) (by decide) (by decide) k) ?_
    show own_Gl _ _ _ _ _ _ _ (T78.setTop (mkF m 120 #[.val (.int p1), .val (.int p2), .val (.int (2 : Int32)), .val (.ref b57), .val (.ref r_68)] []))
    refine own_st (fun _ k => XS.aload X78.here hx rfl (hb hby at_120) rfl rfl k) ?_
    show own_Gl _ _ _ _ _ _ _ (T78.setTop (mkF m 122 #[.val (.int p1), .val (.int p2), .val (.int (2 : Int32)), .val (.ref b57), .val (.ref r_68)] [(.ref r_68)]))
    refine own_st (fun _ k => XS.aloadN X78.here hx rfl (hb hby at_122) rfl rfl k) ?_
    show own_Gl _ _ _ _ _ _ _ (T78.setTop (mkF m 123 #[.val (.int p1), .val (.int p2), .val (.int (2 : Int32)), .val (.ref b57), .val (.ref r_68)] [(.ref b57), (.ref r_68)]))
    refine own_st (fun _ k => XS.iloadN X78.here hx rfl (hb hby at_123) rfl k) ?_
    show own_Gl _ _ _ _ _ _ _ (T78.setTop (mkF m 124 #[.val (.int p1), .val (.int p2), .val (.int (2 : Int32)), .val (.ref b57), .val (.ref r_68)] [(.int (2 : Int32)), (.ref b57), (.ref r_68)]))
    refine own_st (fun _ k => XS.iconst X78.here hx rfl (hb hby at_124) k) ?_
    show own_Gl _ _ _ _ _ _ _ (T78.setTop (mkF m 125 #[.val (.int p1), .val (.int p2), .val (.int (2 : Int32)), .val (.ref b57), .val (.ref r_68)] [(.int (2 : Int32)), (.int (2 : Int32)), (.ref b57), (.ref r_68)]))
    refine own_st (fun _ k => XS.iloadN X78.here hx rfl (hb hby at_125) rfl k) ?_
    show own_Gl _ _ _ _ _ _ _ (T78.setTop (mkF m 126 #[.val (.int p1), .val (.int p2), .val (.int (2 : Int32)), .val (.ref b57), .val (.ref r_68)] [(.int p2), (.int (2 : Int32)), (.int (2 : Int32)), (.ref b57), (.ref r_68)]))
    obtain ⟨_, _, ⟨T80, L80, k80, n80⟩, -, X80, ⟨Lc80, hQ80, l80, y80, z80⟩, st80⟩ := Jvm.LawKit.callS X78 hx (y := (⟨"com/example/assayline/assayline/protocol/MllpFramePinLaw", "slot", "([B[BIII)Z"⟩ : MethodName)) hown (mvT hZ (hw _ (List.mem_of_getElem? (i := 10) rfl))) (mvT hZ (hw _ (List.mem_of_getElem? (i := 11) rfl))) (mvT hZ (hw _ (List.mem_of_getElem? (i := 12) rfl))) (mvT hZ (hw _ (List.mem_of_getElem? (i := 13) rfl))) (by decide) (backOf (W := 0) (own_slot0 l Z a0 hw [] r_68 b57 (2 : Int32) (2 : Int32) p2 hh68 n0 Zs70 (by decide)) hZ (hw _ (List.mem_of_getElem? (i := 13) rfl)) (hw _ (List.mem_of_getElem? (i := 12) rfl)) (by decide) (by decide)) (g := (mkF m 126 #[.val (.int p1), .val (.int p2), .val (.int (2 : Int32)), .val (.ref b57), .val (.ref r_68)] [(.int p2), (.int (2 : Int32)), (.int (2 : Int32)), (.ref b57), (.ref r_68)])) rfl (by rw [hml]; rfl) (argsL := [(.ref r_68), (.ref b57), (.int (2 : Int32)), (.int (2 : Int32)), (.int p2)]) (rest := []) (lenOf own_pd585243724 rfl) rfl (by show 2 * 0 + _ ≤ _; exact Nat.le_of_eq rfl) (hb hby at_126) (fun _ _ => ⟨rfl, e78, (by decide : 2 + 0 ≤ room_1.cells), (by decide : 7 + 0 ≤ room_1.slots)⟩)
    dsimp only [Pt.U, Pt.locs, Pt.cells, Pt.slots] at X80 l80 y80 z80 st80 hQ80
    subst l80 y80 z80
    obtain ⟨hh80, eh080⟩ : ∃ z, T80.heap = z := ⟨_, rfl⟩
    rw [eh080] at hQ80
    obtain ⟨rfl, Nq80, eh80⟩ := hQ80
    have N80 := Fr.app N78 Nq80
    refine own_st st80 ?_
    have e80 : T80.heap = hh68 := eh080.trans eh80
    show own_Gl _ _ _ _ _ _ _ (T80.setTop (mkF m 129 #[.val (.int p1), .val (.int p2), .val (.int (2 : Int32)), .val (.ref b57), .val (.ref r_68)] [(.int (1 : Int32))]))
    have hd81 : ¬ ((1 : Int32) = (0 : Int32)) := (by decide)
    refine own_st (fun _ k => XS.ifYes X80.here hx rfl (pc0 := 129) (pc' := 134) rfl (hb hby at_129) rfl ((if0 _ _).trans (feq hd81).2) (by decide) (by decide) k) ?_
    show own_Gl _ _ _ _ _ _ _ (T80.setTop (mkF m 134 #[.val (.int p1), .val (.int p2), .val (.int (2 : Int32)), .val (.ref b57), .val (.ref r_68)] []))
    refine own_st (fun _ k => XS.aload X80.here hx rfl (hb hby at_134) rfl rfl k) ?_
    show own_Gl _ _ _ _ _ _ _ (T80.setTop (mkF m 136 #[.val (.int p1), .val (.int p2), .val (.int (2 : Int32)), .val (.ref b57), .val (.ref r_68)] [(.ref r_68)]))
    refine own_st (fun _ k => XS.aloadN X80.here hx rfl (hb hby at_136) rfl rfl k) ?_
    show own_Gl _ _ _ _ _ _ _ (T80.setTop (mkF m 137 #[.val (.int p1), .val (.int p2), .val (.int (2 : Int32)), .val (.ref b57), .val (.ref r_68)] [(.ref b57), (.ref r_68)]))
    refine own_st (fun _ k => XS.iloadN X80.here hx rfl (hb hby at_137) rfl k) ?_
    show own_Gl _ _ _ _ _ _ _ (T80.setTop (mkF m 138 #[.val (.int p1), .val (.int p2), .val (.int (2 : Int32)), .val (.ref b57), .val (.ref r_68)] [(.int (2 : Int32)), (.ref b57), (.ref r_68)]))
    refine own_st (fun _ k => XS.iconst X80.here hx rfl (hb hby at_138) k) ?_
    show own_Gl _ _ _ _ _ _ _ (T80.setTop (mkF m 139 #[.val (.int p1), .val (.int p2), .val (.int (2 : Int32)), .val (.ref b57), .val (.ref r_68)] [(.int (3 : Int32)), (.int (2 : Int32)), (.ref b57), (.ref r_68)]))
    refine own_st (fun _ k => XS.iloadN X80.here hx rfl (hb hby at_139) rfl k) ?_
    show own_Gl _ _ _ _ _ _ _ (T80.setTop (mkF m 140 #[.val (.int p1), .val (.int p2), .val (.int (2 : Int32)), .val (.ref b57), .val (.ref r_68)] [(.int p2), (.int (3 : Int32)), (.int (2 : Int32)), (.ref b57), (.ref r_68)]))
    obtain ⟨_, _, ⟨T82, L82, k82, n82⟩, -, X82, ⟨Lc82, hQ82, l82, y82, z82⟩, st82⟩ := Jvm.LawKit.callS X80 hx (y := (⟨"com/example/assayline/assayline/protocol/MllpFramePinLaw", "slot", "([B[BIII)Z"⟩ : MethodName)) hown (mvT hZ (hw _ (List.mem_of_getElem? (i := 10) rfl))) (mvT hZ (hw _ (List.mem_of_getElem? (i := 11) rfl))) (mvT hZ (hw _ (List.mem_of_getElem? (i := 12) rfl))) (mvT hZ (hw _ (List.mem_of_getElem? (i := 13) rfl))) (by decide) (backOf (W := 0) (own_slot0 l Z a0 hw [] r_68 b57 (2 : Int32) (3 : Int32) p2 hh68 n0 Zs70 (by decide)) hZ (hw _ (List.mem_of_getElem? (i := 13) rfl)) (hw _ (List.mem_of_getElem? (i := 12) rfl)) (by decide) (by decide)) (g := (mkF m 140 #[.val (.int p1), .val (.int p2), .val (.int (2 : Int32)), .val (.ref b57), .val (.ref r_68)] [(.int p2), (.int (3 : Int32)), (.int (2 : Int32)), (.ref b57), (.ref r_68)])) rfl (by rw [hml]; rfl) (argsL := [(.ref r_68), (.ref b57), (.int (2 : Int32)), (.int (3 : Int32)), (.int p2)]) (rest := []) (lenOf own_pd585243724 rfl) rfl (by show 2 * 0 + _ ≤ _; exact Nat.le_of_eq rfl) (hb hby at_140) (fun _ _ => ⟨rfl, e80, (by decide : 2 + 0 ≤ room_1.cells), (by decide : 7 + 0 ≤ room_1.slots)⟩)
    dsimp only [Pt.U, Pt.locs, Pt.cells, Pt.slots] at X82 l82 y82 z82 st82 hQ82
    subst l82 y82 z82
    obtain ⟨hh82, eh082⟩ : ∃ z, T82.heap = z := ⟨_, rfl⟩
    rw [eh082] at hQ82
    obtain ⟨rfl, Nq82, eh82⟩ := hQ82
    have N82 := Fr.app N80 Nq82
    refine own_st st82 ?_
    have e82 : T82.heap = hh68 := eh082.trans eh82
    show own_Gl _ _ _ _ _ _ _ (T82.setTop (mkF m 143 #[.val (.int p1), .val (.int p2), .val (.int (2 : Int32)), .val (.ref b57), .val (.ref r_68)] [(.int (1 : Int32))]))
    have hd83 : ¬ ((1 : Int32) = (0 : Int32)) := (by decide)
    refine own_st (fun _ k => XS.ifYes X82.here hx rfl (pc0 := 143) (pc' := 148) rfl (hb hby at_143) rfl ((if0 _ _).trans (feq hd83).2) (by decide) (by decide) k) ?_
    show own_Gl _ _ _ _ _ _ _ (T82.setTop (mkF m 148 #[.val (.int p1), .val (.int p2), .val (.int (2 : Int32)), .val (.ref b57), .val (.ref r_68)] []))
    refine own_st (fun _ k => XS.aload X82.here hx rfl (hb hby at_148) rfl rfl k) ?_
    show own_Gl _ _ _ _ _ _ _ (T82.setTop (mkF m 150 #[.val (.int p1), .val (.int p2), .val (.int (2 : Int32)), .val (.ref b57), .val (.ref r_68)] [(.ref r_68)]))
    refine own_st (fun _ k => XS.iloadN X82.here hx rfl (hb hby at_150) rfl k) ?_
    show own_Gl _ _ _ _ _ _ _ (T82.setTop (mkF m 151 #[.val (.int p1), .val (.int p2), .val (.int (2 : Int32)), .val (.ref b57), .val (.ref r_68)] [(.int (2 : Int32)), (.ref r_68)]))
    refine own_st (fun _ k => XS.iconst X82.here hx rfl (hb hby at_151) k) ?_
    show own_Gl _ _ _ _ _ _ _ (T82.setTop (mkF m 152 #[.val (.int p1), .val (.int p2), .val (.int (2 : Int32)), .val (.ref b57), .val (.ref r_68)] [(.int (1 : Int32)), (.int (2 : Int32)), (.ref r_68)]))
    refine own_st (fun _ k => XS.iadd X82.here hx rfl (hb hby at_152) rfl k) ?_
    show own_Gl _ _ _ _ _ _ _ (T82.setTop (mkF m 153 #[.val (.int p1), .val (.int p2), .val (.int (2 : Int32)), .val (.ref b57), .val (.ref r_68)] [(.int (3 : Int32)), (.ref r_68)]))
    obtain ⟨cl84, Ar84, qq84, Ss84, Nn84, Hh84, Gg84⟩ := id P68_2
    have hin84 : ¬ ((3 : Int32) < 0 ∨ cl84.slots.size ≤ ((3 : Int32)).toNatClampNeg) := inb_of Ss84 ⟨by decide, by decide⟩
    have hat84 : cl84.slots[((3 : Int32)).toNatClampNeg]? = some (.int (nar .byte (28 : Int32))) := Hh84.at hin84 (rfl)
    refine own_st (X82.baloadBytes hx (j := (3 : Int32)) (v := (.int (nar .byte (28 : Int32)))) (by rw [e82]; exact Ar84.1) (State.isArrayOf_alike hZ.alike Ar84.2.1) Ar84.2.2 hin84 hat84 (g := (mkF m 153 #[.val (.int p1), .val (.int p2), .val (.int (2 : Int32)), .val (.ref b57), .val (.ref r_68)] [(.int (3 : Int32)), (.ref r_68)])) rfl rfl (hb hby at_153)) ?_
    show own_Gl _ _ _ _ _ _ _ (T82.setTop (mkF m 154 #[.val (.int p1), .val (.int p2), .val (.int (2 : Int32)), .val (.ref b57), .val (.ref r_68)] [(.int (nar .byte (28 : Int32)))]))
    refine own_st (fun _ k => XS.bipush X82.here hx rfl (hb hby at_154) k) ?_
    show own_Gl _ _ _ _ _ _ _ (T82.setTop (mkF m 156 #[.val (.int p1), .val (.int p2), .val (.int (2 : Int32)), .val (.ref b57), .val (.ref r_68)] [(.int (28 : Int32)), (.int (nar .byte (28 : Int32)))]))
    have hd85 : (nar .byte (28 : Int32)) = (28 : Int32) := (by decide)
    refine own_st (fun _ k => XS.icmpYes X82.here hx rfl (pc0 := 156) (pc' := 161) rfl (hb hby at_156) rfl (teq hd85).1 (by decide) (by decide) k) ?_
    show own_Gl _ _ _ _ _ _ _ (T82.setTop (mkF m 161 #[.val (.int p1), .val (.int p2), .val (.int (2 : Int32)), .val (.ref b57), .val (.ref r_68)] []))
    refine own_st (fun _ k => XS.aload X82.here hx rfl (hb hby at_161) rfl rfl k) ?_
    show own_Gl _ _ _ _ _ _ _ (T82.setTop (mkF m 163 #[.val (.int p1), .val (.int p2), .val (.int (2 : Int32)), .val (.ref b57), .val (.ref r_68)] [(.ref r_68)]))
    refine own_st (fun _ k => XS.iloadN X82.here hx rfl (hb hby at_163) rfl k) ?_
    show own_Gl _ _ _ _ _ _ _ (T82.setTop (mkF m 164 #[.val (.int p1), .val (.int p2), .val (.int (2 : Int32)), .val (.ref b57), .val (.ref r_68)] [(.int (2 : Int32)), (.ref r_68)]))
    refine own_st (fun _ k => XS.iconst X82.here hx rfl (hb hby at_164) k) ?_
    show own_Gl _ _ _ _ _ _ _ (T82.setTop (mkF m 165 #[.val (.int p1), .val (.int p2), .val (.int (2 : Int32)), .val (.ref b57), .val (.ref r_68)] [(.int (2 : Int32)), (.int (2 : Int32)), (.ref r_68)]))
    refine own_st (fun _ k => XS.iadd X82.here hx rfl (hb hby at_165) rfl k) ?_
    show own_Gl _ _ _ _ _ _ _ (T82.setTop (mkF m 166 #[.val (.int p1), .val (.int p2), .val (.int (2 : Int32)), .val (.ref b57), .val (.ref r_68)] [(.int (4 : Int32)), (.ref r_68)]))
    obtain ⟨cl86, Ar86, qq86, Ss86, Nn86, Hh86, Gg86⟩ := id P68_2
    have hin86 : ¬ ((4 : Int32) < 0 ∨ cl86.slots.size ≤ ((4 : Int32)).toNatClampNeg) := inb_of Ss86 ⟨by decide, by decide⟩
    have hat86 : cl86.slots[((4 : Int32)).toNatClampNeg]? = some (.int (nar .byte (13 : Int32))) := Hh86.at hin86 (rfl)
    refine own_st (X82.baloadBytes hx (j := (4 : Int32)) (v := (.int (nar .byte (13 : Int32)))) (by rw [e82]; exact Ar86.1) (State.isArrayOf_alike hZ.alike Ar86.2.1) Ar86.2.2 hin86 hat86 (g := (mkF m 166 #[.val (.int p1), .val (.int p2), .val (.int (2 : Int32)), .val (.ref b57), .val (.ref r_68)] [(.int (4 : Int32)), (.ref r_68)])) rfl rfl (hb hby at_166)) ?_
    show own_Gl _ _ _ _ _ _ _ (T82.setTop (mkF m 167 #[.val (.int p1), .val (.int p2), .val (.int (2 : Int32)), .val (.ref b57), .val (.ref r_68)] [(.int (nar .byte (13 : Int32)))]))
    refine own_st (fun _ k => XS.bipush X82.here hx rfl (hb hby at_167) k) ?_
    show own_Gl _ _ _ _ _ _ _ (T82.setTop (mkF m 169 #[.val (.int p1), .val (.int p2), .val (.int (2 : Int32)), .val (.ref b57), .val (.ref r_68)] [(.int (13 : Int32)), (.int (nar .byte (13 : Int32)))]))
    have hd87 : (nar .byte (13 : Int32)) = (13 : Int32) := (by decide)
    refine own_st (fun _ k => XS.icmpYes X82.here hx rfl (pc0 := 169) (pc' := 174) rfl (hb hby at_169) rfl (teq hd87).1 (by decide) (by decide) k) ?_
    show own_Gl _ _ _ _ _ _ _ (T82.setTop (mkF m 174 #[.val (.int p1), .val (.int p2), .val (.int (2 : Int32)), .val (.ref b57), .val (.ref r_68)] []))
    refine own_st (fun _ k => XS.iconst X82.here hx rfl (hb hby at_174) k) ?_
    show own_Gl _ _ _ _ _ _ _ (T82.setTop (mkF m 175 #[.val (.int p1), .val (.int p2), .val (.int (2 : Int32)), .val (.ref b57), .val (.ref r_68)] [(.int (1 : Int32))]))
    exact own_retN X82 hx hlk (t := .boolean) hret (by simp) (hb hby at_175) e82 ⟨rfl, N82⟩ (by decide) (by decide)
  · rw [hk]
    show own_Gl _ _ _ _ _ _ _ (s₁.setTop (mkF m 7 #[.val (.int p1), .val (.int p2), .val (.int (3 : Int32)), .unset, .unset] []))
    refine own_st (fun _ k => XS.iloadN X0.here hx rfl (hb hby at_7) rfl k) ?_
    show own_Gl _ _ _ _ _ _ _ (s₁.setTop (mkF m 8 #[.val (.int p1), .val (.int p2), .val (.int (3 : Int32)), .unset, .unset] [(.int (3 : Int32))]))
    obtain ⟨T88, h88, k88, X88, e88, E88, A88, st88⟩ := newP X0 hx hZ (hw _ (List.mem_of_getElem? (i := 1) rfl)) e0 (g := (mkF m 8 #[.val (.int p1), .val (.int p2), .val (.int (3 : Int32)), .unset, .unset] [(.int (3 : Int32))])) rfl (hb hby at_8) rfl (by decide) (cap := 3) (by decide) (by decide) (by decide) (by decide)
    obtain ⟨b88, gb88⟩ : ∃ z, z = h0.size := ⟨_, rfl⟩
    rw [← gb88] at A88 st88
    refine own_st st88 ?_
    have Zs89 : n0 ≤ h88.size := Nat.le_trans Z0 E88.1
    have g_b88 : n0 ≤ b88 := Nat.le_trans Z0 (Nat.le_of_eq gb88.symm)
    have gh_b88 : h0.size ≤ b88 := Nat.le_trans (Keep.refl h0 []).1 (Nat.le_of_eq gb88.symm)
    have V_b88 : Arv Z h88 b88 k88 .byte (3 : Int32) [(.int (0 : Int32)), (.int (0 : Int32)), (.int (0 : Int32))] (.int (0 : Int32)) := (Arv.new A88 (by decide)).pad (pad_rep [] (.int (0 : Int32)) 3)
    show own_Gl _ _ _ _ _ _ _ (T88.setTop (mkF m 10 #[.val (.int p1), .val (.int p2), .val (.int (3 : Int32)), .unset, .unset] [(.ref b88)]))
    refine own_st (fun _ k => XS.astoreN X88.here hx rfl (hb hby at_10) rfl rfl (l' := #[.val (.int p1), .val (.int p2), .val (.int (3 : Int32)), .val (.ref b88), .unset]) rfl k) ?_
    show own_Gl _ _ _ _ _ _ _ (T88.setTop (mkF m 11 #[.val (.int p1), .val (.int p2), .val (.int (3 : Int32)), .val (.ref b88), .unset] []))
    refine own_st (fun _ k => XS.iloadN X88.here hx rfl (hb hby at_11) rfl k) ?_
    show own_Gl _ _ _ _ _ _ _ (T88.setTop (mkF m 12 #[.val (.int p1), .val (.int p2), .val (.int (3 : Int32)), .val (.ref b88), .unset] [(.int (3 : Int32))]))
    have hd91 : (0 : Int32) < (3 : Int32) := (by decide)
    refine own_st (fun _ k => XS.ifNo X88.here hx rfl (hb hby at_12) rfl ((if0 _ _).trans (tlt hd91).2.2.2) k) ?_
    show own_Gl _ _ _ _ _ _ _ (T88.setTop (mkF m 15 #[.val (.int p1), .val (.int p2), .val (.int (3 : Int32)), .val (.ref b88), .unset] []))
    refine own_st (fun _ k => XS.aloadN X88.here hx rfl (hb hby at_15) rfl rfl k) ?_
    show own_Gl _ _ _ _ _ _ _ (T88.setTop (mkF m 16 #[.val (.int p1), .val (.int p2), .val (.int (3 : Int32)), .val (.ref b88), .unset] [(.ref b88)]))
    refine own_st (fun _ k => XS.iconst X88.here hx rfl (hb hby at_16) k) ?_
    show own_Gl _ _ _ _ _ _ _ (T88.setTop (mkF m 17 #[.val (.int p1), .val (.int p2), .val (.int (3 : Int32)), .val (.ref b88), .unset] [(.int (0 : Int32)), (.ref b88)]))
    refine own_st (fun _ k => XS.iloadN X88.here hx rfl (hb hby at_17) rfl k) ?_
    show own_Gl _ _ _ _ _ _ _ (T88.setTop (mkF m 18 #[.val (.int p1), .val (.int p2), .val (.int (3 : Int32)), .val (.ref b88), .unset] [(.int p2), (.int (0 : Int32)), (.ref b88)]))
    refine own_st (fun _ k => XS.i2b X88.here hx rfl (hb hby at_18) rfl k) ?_
    show own_Gl _ _ _ _ _ _ _ (T88.setTop (mkF m 19 #[.val (.int p1), .val (.int p2), .val (.int (3 : Int32)), .val (.ref b88), .unset] [(.int (p2.toInt8.toInt32)), (.int (0 : Int32)), (.ref b88)]))
    obtain ⟨cl92, Ar92, qq92, Ss92, Nn92, Hh92, Gg92⟩ := id V_b88
    have hin92 : ¬ ((0 : Int32) < 0 ∨ cl92.slots.size ≤ ((0 : Int32)).toNatClampNeg) := inb_of Ss92 ⟨by decide, by decide⟩
    obtain ⟨T92, h92, X92, e92, W92, st92⟩ := stB X88 hx hZ e88 Ar92 (j := (0 : Int32)) hin92 (g := (mkF m 19 #[.val (.int p1), .val (.int p2), .val (.int (3 : Int32)), .val (.ref b88), .unset] [(.int (p2.toInt8.toInt32)), (.int (0 : Int32)), (.ref b88)])) rfl rfl (hb hby at_19)
    have N92 := Fr.snoc X92 N0 g_b88
    refine own_st st92 ?_
    have Zs93 : n0 ≤ h92.size := Nat.le_trans Zs89 (Keep.of_wr W92).1
    have Vw92 : Arv Z h92 b88 k88 .byte (3 : Int32) [(.int (nar .byte (p2.toInt8.toInt32))), (.int (0 : Int32)), (.int (0 : Int32))] (.int (0 : Int32)) := Arv.set Ar92 qq92 Ss92 Nn92 Hh92 Gg92 (fits_nar_byte _) W92 0 (rfl) (Nat.le_of_ble_eq_true rfl)
    show own_Gl _ _ _ _ _ _ _ (T92.setTop (mkF m 20 #[.val (.int p1), .val (.int p2), .val (.int (3 : Int32)), .val (.ref b88), .unset] []))
    refine own_st (fun _ k => XS.iloadN X92.here hx rfl (hb hby at_20) rfl k) ?_
    show own_Gl _ _ _ _ _ _ _ (T92.setTop (mkF m 21 #[.val (.int p1), .val (.int p2), .val (.int (3 : Int32)), .val (.ref b88), .unset] [(.int (3 : Int32))]))
    refine own_st (fun _ k => XS.iconst X92.here hx rfl (hb hby at_21) k) ?_
    show own_Gl _ _ _ _ _ _ _ (T92.setTop (mkF m 22 #[.val (.int p1), .val (.int p2), .val (.int (3 : Int32)), .val (.ref b88), .unset] [(.int (1 : Int32)), (.int (3 : Int32))]))
    have hd94 : (1 : Int32) < (3 : Int32) := (by decide)
    refine own_st (fun _ k => XS.icmpNo X92.here hx rfl (hb hby at_22) rfl (tlt hd94).2.2.2 k) ?_
    show own_Gl _ _ _ _ _ _ _ (T92.setTop (mkF m 25 #[.val (.int p1), .val (.int p2), .val (.int (3 : Int32)), .val (.ref b88), .unset] []))
    refine own_st (fun _ k => XS.aloadN X92.here hx rfl (hb hby at_25) rfl rfl k) ?_
    show own_Gl _ _ _ _ _ _ _ (T92.setTop (mkF m 26 #[.val (.int p1), .val (.int p2), .val (.int (3 : Int32)), .val (.ref b88), .unset] [(.ref b88)]))
    refine own_st (fun _ k => XS.iconst X92.here hx rfl (hb hby at_26) k) ?_
    show own_Gl _ _ _ _ _ _ _ (T92.setTop (mkF m 27 #[.val (.int p1), .val (.int p2), .val (.int (3 : Int32)), .val (.ref b88), .unset] [(.int (1 : Int32)), (.ref b88)]))
    refine own_st (fun _ k => XS.iloadN X92.here hx rfl (hb hby at_27) rfl k) ?_
    show own_Gl _ _ _ _ _ _ _ (T92.setTop (mkF m 28 #[.val (.int p1), .val (.int p2), .val (.int (3 : Int32)), .val (.ref b88), .unset] [(.int p2), (.int (1 : Int32)), (.ref b88)]))
    refine own_st (fun _ k => XS.bipush X92.here hx rfl (hb hby at_28) k) ?_
    show own_Gl _ _ _ _ _ _ _ (T92.setTop (mkF m 30 #[.val (.int p1), .val (.int p2), .val (.int (3 : Int32)), .val (.ref b88), .unset] [(.int (8 : Int32)), (.int p2), (.int (1 : Int32)), (.ref b88)]))
    refine own_st (fun _ k => XS.iushr X92.here hx rfl (hb hby at_30) rfl k) ?_
    show own_Gl _ _ _ _ _ _ _ (T92.setTop (mkF m 31 #[.val (.int p1), .val (.int p2), .val (.int (3 : Int32)), .val (.ref b88), .unset] [(.int ((p2.toUInt32 >>> ((8 : Int32) &&& 31).toUInt32).toInt32)), (.int (1 : Int32)), (.ref b88)]))
    refine own_st (fun _ k => XS.i2b X92.here hx rfl (hb hby at_31) rfl k) ?_
    show own_Gl _ _ _ _ _ _ _ (T92.setTop (mkF m 32 #[.val (.int p1), .val (.int p2), .val (.int (3 : Int32)), .val (.ref b88), .unset] [(.int (((p2.toUInt32 >>> ((8 : Int32) &&& 31).toUInt32).toInt32).toInt8.toInt32)), (.int (1 : Int32)), (.ref b88)]))
    obtain ⟨cl95, Ar95, qq95, Ss95, Nn95, Hh95, Gg95⟩ := id Vw92
    have hin95 : ¬ ((1 : Int32) < 0 ∨ cl95.slots.size ≤ ((1 : Int32)).toNatClampNeg) := inb_of Ss95 ⟨by decide, by decide⟩
    obtain ⟨T95, h95, X95, e95, W95, st95⟩ := stB X92 hx hZ e92 Ar95 (j := (1 : Int32)) hin95 (g := (mkF m 32 #[.val (.int p1), .val (.int p2), .val (.int (3 : Int32)), .val (.ref b88), .unset] [(.int (((p2.toUInt32 >>> ((8 : Int32) &&& 31).toUInt32).toInt32).toInt8.toInt32)), (.int (1 : Int32)), (.ref b88)])) rfl rfl (hb hby at_32)
    have N95 := Fr.snoc X95 N92 g_b88
    refine own_st st95 ?_
    have Zs96 : n0 ≤ h95.size := Nat.le_trans Zs93 (Keep.of_wr W95).1
    have Vw95 : Arv Z h95 b88 k88 .byte (3 : Int32) [(.int (nar .byte (p2.toInt8.toInt32))), (.int (nar .byte (((p2.toUInt32 >>> ((8 : Int32) &&& 31).toUInt32).toInt32).toInt8.toInt32))), (.int (0 : Int32))] (.int (0 : Int32)) := Arv.set Ar95 qq95 Ss95 Nn95 Hh95 Gg95 (fits_nar_byte _) W95 1 (rfl) (Nat.le_of_ble_eq_true rfl)
    show own_Gl _ _ _ _ _ _ _ (T95.setTop (mkF m 33 #[.val (.int p1), .val (.int p2), .val (.int (3 : Int32)), .val (.ref b88), .unset] []))
    refine own_st (fun _ k => XS.iloadN X95.here hx rfl (hb hby at_33) rfl k) ?_
    show own_Gl _ _ _ _ _ _ _ (T95.setTop (mkF m 34 #[.val (.int p1), .val (.int p2), .val (.int (3 : Int32)), .val (.ref b88), .unset] [(.int (3 : Int32))]))
    refine own_st (fun _ k => XS.iconst X95.here hx rfl (hb hby at_34) k) ?_
    show own_Gl _ _ _ _ _ _ _ (T95.setTop (mkF m 35 #[.val (.int p1), .val (.int p2), .val (.int (3 : Int32)), .val (.ref b88), .unset] [(.int (2 : Int32)), (.int (3 : Int32))]))
    have hd97 : (2 : Int32) < (3 : Int32) := (by decide)
    refine own_st (fun _ k => XS.icmpNo X95.here hx rfl (hb hby at_35) rfl (tlt hd97).2.2.2 k) ?_
    show own_Gl _ _ _ _ _ _ _ (T95.setTop (mkF m 38 #[.val (.int p1), .val (.int p2), .val (.int (3 : Int32)), .val (.ref b88), .unset] []))
    refine own_st (fun _ k => XS.aloadN X95.here hx rfl (hb hby at_38) rfl rfl k) ?_
    show own_Gl _ _ _ _ _ _ _ (T95.setTop (mkF m 39 #[.val (.int p1), .val (.int p2), .val (.int (3 : Int32)), .val (.ref b88), .unset] [(.ref b88)]))
    refine own_st (fun _ k => XS.iconst X95.here hx rfl (hb hby at_39) k) ?_
    show own_Gl _ _ _ _ _ _ _ (T95.setTop (mkF m 40 #[.val (.int p1), .val (.int p2), .val (.int (3 : Int32)), .val (.ref b88), .unset] [(.int (2 : Int32)), (.ref b88)]))
    refine own_st (fun _ k => XS.iloadN X95.here hx rfl (hb hby at_40) rfl k) ?_
    show own_Gl _ _ _ _ _ _ _ (T95.setTop (mkF m 41 #[.val (.int p1), .val (.int p2), .val (.int (3 : Int32)), .val (.ref b88), .unset] [(.int p2), (.int (2 : Int32)), (.ref b88)]))
    refine own_st (fun _ k => XS.bipush X95.here hx rfl (hb hby at_41) k) ?_
    show own_Gl _ _ _ _ _ _ _ (T95.setTop (mkF m 43 #[.val (.int p1), .val (.int p2), .val (.int (3 : Int32)), .val (.ref b88), .unset] [(.int (16 : Int32)), (.int p2), (.int (2 : Int32)), (.ref b88)]))
    refine own_st (fun _ k => XS.iushr X95.here hx rfl (hb hby at_43) rfl k) ?_
    show own_Gl _ _ _ _ _ _ _ (T95.setTop (mkF m 44 #[.val (.int p1), .val (.int p2), .val (.int (3 : Int32)), .val (.ref b88), .unset] [(.int ((p2.toUInt32 >>> ((16 : Int32) &&& 31).toUInt32).toInt32)), (.int (2 : Int32)), (.ref b88)]))
    refine own_st (fun _ k => XS.i2b X95.here hx rfl (hb hby at_44) rfl k) ?_
    show own_Gl _ _ _ _ _ _ _ (T95.setTop (mkF m 45 #[.val (.int p1), .val (.int p2), .val (.int (3 : Int32)), .val (.ref b88), .unset] [(.int (((p2.toUInt32 >>> ((16 : Int32) &&& 31).toUInt32).toInt32).toInt8.toInt32)), (.int (2 : Int32)), (.ref b88)]))
    obtain ⟨cl98, Ar98, qq98, Ss98, Nn98, Hh98, Gg98⟩ := id Vw95
    have hin98 : ¬ ((2 : Int32) < 0 ∨ cl98.slots.size ≤ ((2 : Int32)).toNatClampNeg) := inb_of Ss98 ⟨by decide, by decide⟩
    obtain ⟨T98, h98, X98, e98, W98, st98⟩ := stB X95 hx hZ e95 Ar98 (j := (2 : Int32)) hin98 (g := (mkF m 45 #[.val (.int p1), .val (.int p2), .val (.int (3 : Int32)), .val (.ref b88), .unset] [(.int (((p2.toUInt32 >>> ((16 : Int32) &&& 31).toUInt32).toInt32).toInt8.toInt32)), (.int (2 : Int32)), (.ref b88)])) rfl rfl (hb hby at_45)
    have N98 := Fr.snoc X98 N95 g_b88
    refine own_st st98 ?_
    have Zs99 : n0 ≤ h98.size := Nat.le_trans Zs96 (Keep.of_wr W98).1
    have Vw98 : Arv Z h98 b88 k88 .byte (3 : Int32) [(.int (nar .byte (p2.toInt8.toInt32))), (.int (nar .byte (((p2.toUInt32 >>> ((8 : Int32) &&& 31).toUInt32).toInt32).toInt8.toInt32))), (.int (nar .byte (((p2.toUInt32 >>> ((16 : Int32) &&& 31).toUInt32).toInt32).toInt8.toInt32)))] (.int (0 : Int32)) := Arv.set Ar98 qq98 Ss98 Nn98 Hh98 Gg98 (fits_nar_byte _) W98 2 (rfl) (Nat.le_of_ble_eq_true rfl)
    show own_Gl _ _ _ _ _ _ _ (T98.setTop (mkF m 46 #[.val (.int p1), .val (.int p2), .val (.int (3 : Int32)), .val (.ref b88), .unset] []))
    refine own_st (fun _ k => XS.iloadN X98.here hx rfl (hb hby at_46) rfl k) ?_
    show own_Gl _ _ _ _ _ _ _ (T98.setTop (mkF m 47 #[.val (.int p1), .val (.int p2), .val (.int (3 : Int32)), .val (.ref b88), .unset] [(.int (3 : Int32))]))
    refine own_st (fun _ k => XS.iconst X98.here hx rfl (hb hby at_47) k) ?_
    show own_Gl _ _ _ _ _ _ _ (T98.setTop (mkF m 48 #[.val (.int p1), .val (.int p2), .val (.int (3 : Int32)), .val (.ref b88), .unset] [(.int (3 : Int32)), (.int (3 : Int32))]))
    have hd100 : ¬ ((3 : Int32) < (3 : Int32)) := (by decide)
    refine own_st (fun _ k => XS.icmpYes X98.here hx rfl (pc0 := 48) (pc' := 59) rfl (hb hby at_48) rfl (flt hd100).2.2.2 (by decide) (by decide) k) ?_
    show own_Gl _ _ _ _ _ _ _ (T98.setTop (mkF m 59 #[.val (.int p1), .val (.int p2), .val (.int (3 : Int32)), .val (.ref b88), .unset] []))
    refine own_st (fun _ k => XS.aloadN X98.here hx rfl (hb hby at_59) rfl rfl k) ?_
    show own_Gl _ _ _ _ _ _ _ (T98.setTop (mkF m 60 #[.val (.int p1), .val (.int p2), .val (.int (3 : Int32)), .val (.ref b88), .unset] [(.ref b88)]))
    obtain ⟨_, _, ⟨T101, L101, k101, n101⟩, -, X101, ⟨Lc101, hQ101, l101, y101, z101⟩, st101⟩ := Jvm.LawKit.callS X98 hx (y := (⟨"com/example/assayline/assayline/protocol/Mllp", "frame", "([B)[B"⟩ : MethodName)) hown (mvT hZ (hw _ (List.mem_of_getElem? (i := 2) rfl))) (mvT hZ (hw _ (List.mem_of_getElem? (i := 3) rfl))) (mvT hZ (hw _ (List.mem_of_getElem? (i := 4) rfl))) (mvT hZ (hw _ (List.mem_of_getElem? (i := 5) rfl))) (by decide) (backOf (W := 0) (own_frame3 l Z a0 hw [] b88 k88 (nar .byte (p2.toInt8.toInt32)) (nar .byte (((p2.toUInt32 >>> ((8 : Int32) &&& 31).toUInt32).toInt32).toInt8.toInt32)) (nar .byte (((p2.toUInt32 >>> ((16 : Int32) &&& 31).toUInt32).toInt32).toInt8.toInt32)) h98 n0 Zs99 Vw98) hZ (hw _ (List.mem_of_getElem? (i := 5) rfl)) (hw _ (List.mem_of_getElem? (i := 4) rfl)) (by decide) (by decide)) (g := (mkF m 60 #[.val (.int p1), .val (.int p2), .val (.int (3 : Int32)), .val (.ref b88), .unset] [(.ref b88)])) rfl (by rw [hml]; rfl) (argsL := [(.ref b88)]) (rest := []) (lenOf own_pd128168445 rfl) rfl (by show 2 * 0 + _ ≤ _; exact Nat.le_of_eq rfl) (hb hby at_60) (fun _ _ => ⟨rfl, e98, (by decide : 1 + 1 ≤ room_1.cells), (by decide : 3 + 6 ≤ room_1.slots)⟩)
    dsimp only [Pt.U, Pt.locs, Pt.cells, Pt.slots] at X101 l101 y101 z101 st101 hQ101
    subst l101 y101 z101
    obtain ⟨hh101, eh0101⟩ : ∃ z, T101.heap = z := ⟨_, rfl⟩
    rw [eh0101] at hQ101
    obtain ⟨r_101, kr_101, rfl, Nq101, Kq101, P101_0, P101_1, P101_2⟩ := hQ101
    have N101 := Fr.app N98 Nq101
    refine own_st st101 ?_
    have K102 : Keep h0 h98 [] := (((((Keep.refl h0 []).ext E88).wr W92 (Or.inr gh_b88)).wr W95 (Or.inr gh_b88)).wr W98 (Or.inr gh_b88))
    have Zs103 : n0 ≤ hh101.size := Nat.le_trans Zs99 Kq101.1
    have gh_r_101 : h0.size ≤ r_101 := Nat.le_trans K102.1 P101_1
    have ne_b88_r_101 : b88 ≠ r_101 := Nat.ne_of_lt (Nat.lt_of_lt_of_le Vw98.lt P101_1)
    show own_Gl _ _ _ _ _ _ _ (T101.setTop (mkF m 63 #[.val (.int p1), .val (.int p2), .val (.int (3 : Int32)), .val (.ref b88), .unset] [(.ref r_101)]))
    refine own_st (fun _ k => XS.astore X101.here hx rfl (hb hby at_63) rfl rfl (l' := #[.val (.int p1), .val (.int p2), .val (.int (3 : Int32)), .val (.ref b88), .val (.ref r_101)]) rfl k) ?_
    show own_Gl _ _ _ _ _ _ _ (T101.setTop (mkF m 65 #[.val (.int p1), .val (.int p2), .val (.int (3 : Int32)), .val (.ref b88), .val (.ref r_101)] []))
    refine own_st (fun _ k => XS.aload X101.here hx rfl (hb hby at_65) rfl rfl k) ?_
    show own_Gl _ _ _ _ _ _ _ (T101.setTop (mkF m 67 #[.val (.int p1), .val (.int p2), .val (.int (3 : Int32)), .val (.ref b88), .val (.ref r_101)] [(.ref r_101)]))
    refine own_st (fun _ k => XS.ifnullNo X101.here hx rfl (hb hby at_67) rfl k) ?_
    show own_Gl _ _ _ _ _ _ _ (T101.setTop (mkF m 70 #[.val (.int p1), .val (.int p2), .val (.int (3 : Int32)), .val (.ref b88), .val (.ref r_101)] []))
    refine own_st (fun _ k => XS.aload X101.here hx rfl (hb hby at_70) rfl rfl k) ?_
    show own_Gl _ _ _ _ _ _ _ (T101.setTop (mkF m 72 #[.val (.int p1), .val (.int p2), .val (.int (3 : Int32)), .val (.ref b88), .val (.ref r_101)] [(.ref r_101)]))
    obtain ⟨cl104, Ar104, qq104, Ss104, Nn104, Hh104, Gg104⟩ := id P101_2
    refine own_st (X101.arraylength hx (by rw [eh0101]; exact Ar104.1) (State.isArrayOf_alike hZ.alike Ar104.2.1) (g := (mkF m 72 #[.val (.int p1), .val (.int p2), .val (.int (3 : Int32)), .val (.ref b88), .val (.ref r_101)] [(.ref r_101)])) rfl rfl (hb hby at_72)) ?_
    rw [len_of Ss104 Nn104]
    show own_Gl _ _ _ _ _ _ _ (T101.setTop (mkF m 73 #[.val (.int p1), .val (.int p2), .val (.int (3 : Int32)), .val (.ref b88), .val (.ref r_101)] [(.int (6 : Int32))]))
    refine own_st (fun _ k => XS.iloadN X101.here hx rfl (hb hby at_73) rfl k) ?_
    show own_Gl _ _ _ _ _ _ _ (T101.setTop (mkF m 74 #[.val (.int p1), .val (.int p2), .val (.int (3 : Int32)), .val (.ref b88), .val (.ref r_101)] [(.int (3 : Int32)), (.int (6 : Int32))]))
    refine own_st (fun _ k => XS.iconst X101.here hx rfl (hb hby at_74) k) ?_
    show own_Gl _ _ _ _ _ _ _ (T101.setTop (mkF m 75 #[.val (.int p1), .val (.int p2), .val (.int (3 : Int32)), .val (.ref b88), .val (.ref r_101)] [(.int (3 : Int32)), (.int (3 : Int32)), (.int (6 : Int32))]))
    refine own_st (fun _ k => XS.iadd X101.here hx rfl (hb hby at_75) rfl k) ?_
    show own_Gl _ _ _ _ _ _ _ (T101.setTop (mkF m 76 #[.val (.int p1), .val (.int p2), .val (.int (3 : Int32)), .val (.ref b88), .val (.ref r_101)] [(.int (6 : Int32)), (.int (6 : Int32))]))
    have hd105 : (6 : Int32) = (6 : Int32) := (by decide)
    refine own_st (fun _ k => XS.icmpYes X101.here hx rfl (pc0 := 76) (pc' := 81) rfl (hb hby at_76) rfl (teq hd105).1 (by decide) (by decide) k) ?_
    show own_Gl _ _ _ _ _ _ _ (T101.setTop (mkF m 81 #[.val (.int p1), .val (.int p2), .val (.int (3 : Int32)), .val (.ref b88), .val (.ref r_101)] []))
    refine own_st (fun _ k => XS.aload X101.here hx rfl (hb hby at_81) rfl rfl k) ?_
    show own_Gl _ _ _ _ _ _ _ (T101.setTop (mkF m 83 #[.val (.int p1), .val (.int p2), .val (.int (3 : Int32)), .val (.ref b88), .val (.ref r_101)] [(.ref r_101)]))
    refine own_st (fun _ k => XS.iconst X101.here hx rfl (hb hby at_83) k) ?_
    show own_Gl _ _ _ _ _ _ _ (T101.setTop (mkF m 84 #[.val (.int p1), .val (.int p2), .val (.int (3 : Int32)), .val (.ref b88), .val (.ref r_101)] [(.int (0 : Int32)), (.ref r_101)]))
    obtain ⟨cl106, Ar106, qq106, Ss106, Nn106, Hh106, Gg106⟩ := id P101_2
    have hin106 : ¬ ((0 : Int32) < 0 ∨ cl106.slots.size ≤ ((0 : Int32)).toNatClampNeg) := inb_of Ss106 ⟨by decide, by decide⟩
    have hat106 : cl106.slots[((0 : Int32)).toNatClampNeg]? = some (.int (nar .byte (11 : Int32))) := Hh106.at hin106 (rfl)
    refine own_st (X101.baloadBytes hx (j := (0 : Int32)) (v := (.int (nar .byte (11 : Int32)))) (by rw [eh0101]; exact Ar106.1) (State.isArrayOf_alike hZ.alike Ar106.2.1) Ar106.2.2 hin106 hat106 (g := (mkF m 84 #[.val (.int p1), .val (.int p2), .val (.int (3 : Int32)), .val (.ref b88), .val (.ref r_101)] [(.int (0 : Int32)), (.ref r_101)])) rfl rfl (hb hby at_84)) ?_
    show own_Gl _ _ _ _ _ _ _ (T101.setTop (mkF m 85 #[.val (.int p1), .val (.int p2), .val (.int (3 : Int32)), .val (.ref b88), .val (.ref r_101)] [(.int (nar .byte (11 : Int32)))]))
    refine own_st (fun _ k => XS.bipush X101.here hx rfl (hb hby at_85) k) ?_
    show own_Gl _ _ _ _ _ _ _ (T101.setTop (mkF m 87 #[.val (.int p1), .val (.int p2), .val (.int (3 : Int32)), .val (.ref b88), .val (.ref r_101)] [(.int (11 : Int32)), (.int (nar .byte (11 : Int32)))]))
    have hd107 : (nar .byte (11 : Int32)) = (11 : Int32) := (by decide)
    refine own_st (fun _ k => XS.icmpYes X101.here hx rfl (pc0 := 87) (pc' := 92) rfl (hb hby at_87) rfl (teq hd107).1 (by decide) (by decide) k) ?_
    show own_Gl _ _ _ _ _ _ _ (T101.setTop (mkF m 92 #[.val (.int p1), .val (.int p2), .val (.int (3 : Int32)), .val (.ref b88), .val (.ref r_101)] []))
    refine own_st (fun _ k => XS.aload X101.here hx rfl (hb hby at_92) rfl rfl k) ?_
    show own_Gl _ _ _ _ _ _ _ (T101.setTop (mkF m 94 #[.val (.int p1), .val (.int p2), .val (.int (3 : Int32)), .val (.ref b88), .val (.ref r_101)] [(.ref r_101)]))
    refine own_st (fun _ k => XS.aloadN X101.here hx rfl (hb hby at_94) rfl rfl k) ?_
    show own_Gl _ _ _ _ _ _ _ (T101.setTop (mkF m 95 #[.val (.int p1), .val (.int p2), .val (.int (3 : Int32)), .val (.ref b88), .val (.ref r_101)] [(.ref b88), (.ref r_101)]))
    refine own_st (fun _ k => XS.iloadN X101.here hx rfl (hb hby at_95) rfl k) ?_
    show own_Gl _ _ _ _ _ _ _ (T101.setTop (mkF m 96 #[.val (.int p1), .val (.int p2), .val (.int (3 : Int32)), .val (.ref b88), .val (.ref r_101)] [(.int (3 : Int32)), (.ref b88), (.ref r_101)]))
    refine own_st (fun _ k => XS.iconst X101.here hx rfl (hb hby at_96) k) ?_
    show own_Gl _ _ _ _ _ _ _ (T101.setTop (mkF m 97 #[.val (.int p1), .val (.int p2), .val (.int (3 : Int32)), .val (.ref b88), .val (.ref r_101)] [(.int (0 : Int32)), (.int (3 : Int32)), (.ref b88), (.ref r_101)]))
    refine own_st (fun _ k => XS.iloadN X101.here hx rfl (hb hby at_97) rfl k) ?_
    show own_Gl _ _ _ _ _ _ _ (T101.setTop (mkF m 98 #[.val (.int p1), .val (.int p2), .val (.int (3 : Int32)), .val (.ref b88), .val (.ref r_101)] [(.int p2), (.int (0 : Int32)), (.int (3 : Int32)), (.ref b88), (.ref r_101)]))
    have f109 := (Vw98.keep Kq101 nin0)
    obtain ⟨_, _, ⟨T108, L108, k108, n108⟩, -, X108, ⟨Lc108, hQ108, l108, y108, z108⟩, st108⟩ := Jvm.LawKit.callS X101 hx (y := (⟨"com/example/assayline/assayline/protocol/MllpFramePinLaw", "slot", "([B[BIII)Z"⟩ : MethodName)) hown (mvT hZ (hw _ (List.mem_of_getElem? (i := 10) rfl))) (mvT hZ (hw _ (List.mem_of_getElem? (i := 11) rfl))) (mvT hZ (hw _ (List.mem_of_getElem? (i := 12) rfl))) (mvT hZ (hw _ (List.mem_of_getElem? (i := 13) rfl))) (by decide) (backOf (W := 0) (own_slot1 l Z a0 hw [] r_101 b88 (3 : Int32) (0 : Int32) p2 kr_101 k88 (6 : Int32) (3 : Int32) [(.int (nar .byte (11 : Int32))), (.int (nar .byte (p2.toInt8.toInt32))), (.int (nar .byte (((p2.toUInt32 >>> ((8 : Int32) &&& 31).toUInt32).toInt32).toInt8.toInt32))), (.int (nar .byte (((p2.toUInt32 >>> ((16 : Int32) &&& 31).toUInt32).toInt32).toInt8.toInt32))), (.int (nar .byte (28 : Int32))), (.int (nar .byte (13 : Int32)))] [(.int (nar .byte (p2.toInt8.toInt32))), (.int (nar .byte (((p2.toUInt32 >>> ((8 : Int32) &&& 31).toUInt32).toInt32).toInt8.toInt32))), (.int (nar .byte (((p2.toUInt32 >>> ((16 : Int32) &&& 31).toUInt32).toInt32).toInt8.toInt32)))] hh101 n0 Zs103 P101_2 f109 (by decide) ⟨by decide, by decide⟩ ⟨by decide, by decide⟩ (own_w0 p2) (own_w0 p2)) hZ (hw _ (List.mem_of_getElem? (i := 13) rfl)) (hw _ (List.mem_of_getElem? (i := 12) rfl)) (by decide) (by decide)) (g := (mkF m 98 #[.val (.int p1), .val (.int p2), .val (.int (3 : Int32)), .val (.ref b88), .val (.ref r_101)] [(.int p2), (.int (0 : Int32)), (.int (3 : Int32)), (.ref b88), (.ref r_101)])) rfl (by rw [hml]; rfl) (argsL := [(.ref r_101), (.ref b88), (.int (3 : Int32)), (.int (0 : Int32)), (.int p2)]) (rest := []) (lenOf own_pd585243724 rfl) rfl (by show 2 * 0 + _ ≤ _; exact Nat.le_of_eq rfl) (hb hby at_98) (fun _ _ => ⟨rfl, eh0101, (by decide : 2 + 0 ≤ room_1.cells), (by decide : 9 + 0 ≤ room_1.slots)⟩)
    dsimp only [Pt.U, Pt.locs, Pt.cells, Pt.slots] at X108 l108 y108 z108 st108 hQ108
    subst l108 y108 z108
    obtain ⟨hh108, eh0108⟩ : ∃ z, T108.heap = z := ⟨_, rfl⟩
    rw [eh0108] at hQ108
    obtain ⟨rfl, Nq108, eh108⟩ := hQ108
    have N108 := Fr.app N101 Nq108
    refine own_st st108 ?_
    have e108 : T108.heap = hh101 := eh0108.trans eh108
    show own_Gl _ _ _ _ _ _ _ (T108.setTop (mkF m 101 #[.val (.int p1), .val (.int p2), .val (.int (3 : Int32)), .val (.ref b88), .val (.ref r_101)] [(.int (1 : Int32))]))
    have hd110 : ¬ ((1 : Int32) = (0 : Int32)) := (by decide)
    refine own_st (fun _ k => XS.ifYes X108.here hx rfl (pc0 := 101) (pc' := 106) rfl (hb hby at_101) rfl ((if0 _ _).trans (feq hd110).2) (by decide) (by decide) k) ?_
    show own_Gl _ _ _ _ _ _ _ (T108.setTop (mkF m 106 #[.val (.int p1), .val (.int p2), .val (.int (3 : Int32)), .val (.ref b88), .val (.ref r_101)] []))
    refine own_st (fun _ k => XS.aload X108.here hx rfl (hb hby at_106) rfl rfl k) ?_
    show own_Gl _ _ _ _ _ _ _ (T108.setTop (mkF m 108 #[.val (.int p1), .val (.int p2), .val (.int (3 : Int32)), .val (.ref b88), .val (.ref r_101)] [(.ref r_101)]))
    refine own_st (fun _ k => XS.aloadN X108.here hx rfl (hb hby at_108) rfl rfl k) ?_
    show own_Gl _ _ _ _ _ _ _ (T108.setTop (mkF m 109 #[.val (.int p1), .val (.int p2), .val (.int (3 : Int32)), .val (.ref b88), .val (.ref r_101)] [(.ref b88), (.ref r_101)]))
    refine own_st (fun _ k => XS.iloadN X108.here hx rfl (hb hby at_109) rfl k) ?_
    show own_Gl _ _ _ _ _ _ _ (T108.setTop (mkF m 110 #[.val (.int p1), .val (.int p2), .val (.int (3 : Int32)), .val (.ref b88), .val (.ref r_101)] [(.int (3 : Int32)), (.ref b88), (.ref r_101)]))
    refine own_st (fun _ k => XS.iconst X108.here hx rfl (hb hby at_110) k) ?_
    show own_Gl _ _ _ _ _ _ _ (T108.setTop (mkF m 111 #[.val (.int p1), .val (.int p2), .val (.int (3 : Int32)), .val (.ref b88), .val (.ref r_101)] [(.int (1 : Int32)), (.int (3 : Int32)), (.ref b88), (.ref r_101)]))
    refine own_st (fun _ k => XS.iloadN X108.here hx rfl (hb hby at_111) rfl k) ?_
    show own_Gl _ _ _ _ _ _ _ (T108.setTop (mkF m 112 #[.val (.int p1), .val (.int p2), .val (.int (3 : Int32)), .val (.ref b88), .val (.ref r_101)] [(.int p2), (.int (1 : Int32)), (.int (3 : Int32)), (.ref b88), (.ref r_101)]))
    obtain ⟨_, _, ⟨T111, L111, k111, n111⟩, -, X111, ⟨Lc111, hQ111, l111, y111, z111⟩, st111⟩ := Jvm.LawKit.callS X108 hx (y := (⟨"com/example/assayline/assayline/protocol/MllpFramePinLaw", "slot", "([B[BIII)Z"⟩ : MethodName)) hown (mvT hZ (hw _ (List.mem_of_getElem? (i := 10) rfl))) (mvT hZ (hw _ (List.mem_of_getElem? (i := 11) rfl))) (mvT hZ (hw _ (List.mem_of_getElem? (i := 12) rfl))) (mvT hZ (hw _ (List.mem_of_getElem? (i := 13) rfl))) (by decide) (backOf (W := 0) (own_slot1 l Z a0 hw [] r_101 b88 (3 : Int32) (1 : Int32) p2 kr_101 k88 (6 : Int32) (3 : Int32) [(.int (nar .byte (11 : Int32))), (.int (nar .byte (p2.toInt8.toInt32))), (.int (nar .byte (((p2.toUInt32 >>> ((8 : Int32) &&& 31).toUInt32).toInt32).toInt8.toInt32))), (.int (nar .byte (((p2.toUInt32 >>> ((16 : Int32) &&& 31).toUInt32).toInt32).toInt8.toInt32))), (.int (nar .byte (28 : Int32))), (.int (nar .byte (13 : Int32)))] [(.int (nar .byte (p2.toInt8.toInt32))), (.int (nar .byte (((p2.toUInt32 >>> ((8 : Int32) &&& 31).toUInt32).toInt32).toInt8.toInt32))), (.int (nar .byte (((p2.toUInt32 >>> ((16 : Int32) &&& 31).toUInt32).toInt32).toInt8.toInt32)))] hh101 n0 Zs103 P101_2 f109 (by decide) ⟨by decide, by decide⟩ ⟨by decide, by decide⟩ (own_w1 p2) (own_w1 p2)) hZ (hw _ (List.mem_of_getElem? (i := 13) rfl)) (hw _ (List.mem_of_getElem? (i := 12) rfl)) (by decide) (by decide)) (g := (mkF m 112 #[.val (.int p1), .val (.int p2), .val (.int (3 : Int32)), .val (.ref b88), .val (.ref r_101)] [(.int p2), (.int (1 : Int32)), (.int (3 : Int32)), (.ref b88), (.ref r_101)])) rfl (by rw [hml]; rfl) (argsL := [(.ref r_101), (.ref b88), (.int (3 : Int32)), (.int (1 : Int32)), (.int p2)]) (rest := []) (lenOf own_pd585243724 rfl) rfl (by show 2 * 0 + _ ≤ _; exact Nat.le_of_eq rfl) (hb hby at_112) (fun _ _ => ⟨rfl, e108, (by decide : 2 + 0 ≤ room_1.cells), (by decide : 9 + 0 ≤ room_1.slots)⟩)
    dsimp only [Pt.U, Pt.locs, Pt.cells, Pt.slots] at X111 l111 y111 z111 st111 hQ111
    subst l111 y111 z111
    obtain ⟨hh111, eh0111⟩ : ∃ z, T111.heap = z := ⟨_, rfl⟩
    rw [eh0111] at hQ111
    obtain ⟨rfl, Nq111, eh111⟩ := hQ111
    have N111 := Fr.app N108 Nq111
    refine own_st st111 ?_
    have e111 : T111.heap = hh101 := eh0111.trans eh111
    show own_Gl _ _ _ _ _ _ _ (T111.setTop (mkF m 115 #[.val (.int p1), .val (.int p2), .val (.int (3 : Int32)), .val (.ref b88), .val (.ref r_101)] [(.int (1 : Int32))]))
    have hd112 : ¬ ((1 : Int32) = (0 : Int32)) := (by decide)
    refine own_st (fun _ k => XS.ifYes X111.here hx rfl (pc0 := 115) (pc' := 120) rfl (hb hby at_115) rfl ((if0 _ _).trans (feq hd112).2) (by decide) (by decide) k) ?_
    show own_Gl _ _ _ _ _ _ _ (T111.setTop (mkF m 120 #[.val (.int p1), .val (.int p2), .val (.int (3 : Int32)), .val (.ref b88), .val (.ref r_101)] []))
    refine own_st (fun _ k => XS.aload X111.here hx rfl (hb hby at_120) rfl rfl k) ?_
    show own_Gl _ _ _ _ _ _ _ (T111.setTop (mkF m 122 #[.val (.int p1), .val (.int p2), .val (.int (3 : Int32)), .val (.ref b88), .val (.ref r_101)] [(.ref r_101)]))
    refine own_st (fun _ k => XS.aloadN X111.here hx rfl (hb hby at_122) rfl rfl k) ?_
    show own_Gl _ _ _ _ _ _ _ (T111.setTop (mkF m 123 #[.val (.int p1), .val (.int p2), .val (.int (3 : Int32)), .val (.ref b88), .val (.ref r_101)] [(.ref b88), (.ref r_101)]))
    refine own_st (fun _ k => XS.iloadN X111.here hx rfl (hb hby at_123) rfl k) ?_
    show own_Gl _ _ _ _ _ _ _ (T111.setTop (mkF m 124 #[.val (.int p1), .val (.int p2), .val (.int (3 : Int32)), .val (.ref b88), .val (.ref r_101)] [(.int (3 : Int32)), (.ref b88), (.ref r_101)]))
    refine own_st (fun _ k => XS.iconst X111.here hx rfl (hb hby at_124) k) ?_
    show own_Gl _ _ _ _ _ _ _ (T111.setTop (mkF m 125 #[.val (.int p1), .val (.int p2), .val (.int (3 : Int32)), .val (.ref b88), .val (.ref r_101)] [(.int (2 : Int32)), (.int (3 : Int32)), (.ref b88), (.ref r_101)]))
    refine own_st (fun _ k => XS.iloadN X111.here hx rfl (hb hby at_125) rfl k) ?_
    show own_Gl _ _ _ _ _ _ _ (T111.setTop (mkF m 126 #[.val (.int p1), .val (.int p2), .val (.int (3 : Int32)), .val (.ref b88), .val (.ref r_101)] [(.int p2), (.int (2 : Int32)), (.int (3 : Int32)), (.ref b88), (.ref r_101)]))
    obtain ⟨_, _, ⟨T113, L113, k113, n113⟩, -, X113, ⟨Lc113, hQ113, l113, y113, z113⟩, st113⟩ := Jvm.LawKit.callS X111 hx (y := (⟨"com/example/assayline/assayline/protocol/MllpFramePinLaw", "slot", "([B[BIII)Z"⟩ : MethodName)) hown (mvT hZ (hw _ (List.mem_of_getElem? (i := 10) rfl))) (mvT hZ (hw _ (List.mem_of_getElem? (i := 11) rfl))) (mvT hZ (hw _ (List.mem_of_getElem? (i := 12) rfl))) (mvT hZ (hw _ (List.mem_of_getElem? (i := 13) rfl))) (by decide) (backOf (W := 0) (own_slot1 l Z a0 hw [] r_101 b88 (3 : Int32) (2 : Int32) p2 kr_101 k88 (6 : Int32) (3 : Int32) [(.int (nar .byte (11 : Int32))), (.int (nar .byte (p2.toInt8.toInt32))), (.int (nar .byte (((p2.toUInt32 >>> ((8 : Int32) &&& 31).toUInt32).toInt32).toInt8.toInt32))), (.int (nar .byte (((p2.toUInt32 >>> ((16 : Int32) &&& 31).toUInt32).toInt32).toInt8.toInt32))), (.int (nar .byte (28 : Int32))), (.int (nar .byte (13 : Int32)))] [(.int (nar .byte (p2.toInt8.toInt32))), (.int (nar .byte (((p2.toUInt32 >>> ((8 : Int32) &&& 31).toUInt32).toInt32).toInt8.toInt32))), (.int (nar .byte (((p2.toUInt32 >>> ((16 : Int32) &&& 31).toUInt32).toInt32).toInt8.toInt32)))] hh101 n0 Zs103 P101_2 f109 (by decide) ⟨by decide, by decide⟩ ⟨by decide, by decide⟩ (own_w2 p2) (own_w2 p2)) hZ (hw _ (List.mem_of_getElem? (i := 13) rfl)) (hw _ (List.mem_of_getElem? (i := 12) rfl)) (by decide) (by decide)) (g := (mkF m 126 #[.val (.int p1), .val (.int p2), .val (.int (3 : Int32)), .val (.ref b88), .val (.ref r_101)] [(.int p2), (.int (2 : Int32)), (.int (3 : Int32)), (.ref b88), (.ref r_101)])) rfl (by rw [hml]; rfl) (argsL := [(.ref r_101), (.ref b88), (.int (3 : Int32)), (.int (2 : Int32)), (.int p2)]) (rest := []) (lenOf own_pd585243724 rfl) rfl (by show 2 * 0 + _ ≤ _; exact Nat.le_of_eq rfl) (hb hby at_126) (fun _ _ => ⟨rfl, e111, (by decide : 2 + 0 ≤ room_1.cells), (by decide : 9 + 0 ≤ room_1.slots)⟩)
    dsimp only [Pt.U, Pt.locs, Pt.cells, Pt.slots] at X113 l113 y113 z113 st113 hQ113
    subst l113 y113 z113
    obtain ⟨hh113, eh0113⟩ : ∃ z, T113.heap = z := ⟨_, rfl⟩
    rw [eh0113] at hQ113
    obtain ⟨rfl, Nq113, eh113⟩ := hQ113
    have N113 := Fr.app N111 Nq113
    refine own_st st113 ?_
    have e113 : T113.heap = hh101 := eh0113.trans eh113
    show own_Gl _ _ _ _ _ _ _ (T113.setTop (mkF m 129 #[.val (.int p1), .val (.int p2), .val (.int (3 : Int32)), .val (.ref b88), .val (.ref r_101)] [(.int (1 : Int32))]))
    have hd114 : ¬ ((1 : Int32) = (0 : Int32)) := (by decide)
    refine own_st (fun _ k => XS.ifYes X113.here hx rfl (pc0 := 129) (pc' := 134) rfl (hb hby at_129) rfl ((if0 _ _).trans (feq hd114).2) (by decide) (by decide) k) ?_
    show own_Gl _ _ _ _ _ _ _ (T113.setTop (mkF m 134 #[.val (.int p1), .val (.int p2), .val (.int (3 : Int32)), .val (.ref b88), .val (.ref r_101)] []))
    refine own_st (fun _ k => XS.aload X113.here hx rfl (hb hby at_134) rfl rfl k) ?_
    show own_Gl _ _ _ _ _ _ _ (T113.setTop (mkF m 136 #[.val (.int p1), .val (.int p2), .val (.int (3 : Int32)), .val (.ref b88), .val (.ref r_101)] [(.ref r_101)]))
    refine own_st (fun _ k => XS.aloadN X113.here hx rfl (hb hby at_136) rfl rfl k) ?_
    show own_Gl _ _ _ _ _ _ _ (T113.setTop (mkF m 137 #[.val (.int p1), .val (.int p2), .val (.int (3 : Int32)), .val (.ref b88), .val (.ref r_101)] [(.ref b88), (.ref r_101)]))
    refine own_st (fun _ k => XS.iloadN X113.here hx rfl (hb hby at_137) rfl k) ?_
    show own_Gl _ _ _ _ _ _ _ (T113.setTop (mkF m 138 #[.val (.int p1), .val (.int p2), .val (.int (3 : Int32)), .val (.ref b88), .val (.ref r_101)] [(.int (3 : Int32)), (.ref b88), (.ref r_101)]))
    refine own_st (fun _ k => XS.iconst X113.here hx rfl (hb hby at_138) k) ?_
    show own_Gl _ _ _ _ _ _ _ (T113.setTop (mkF m 139 #[.val (.int p1), .val (.int p2), .val (.int (3 : Int32)), .val (.ref b88), .val (.ref r_101)] [(.int (3 : Int32)), (.int (3 : Int32)), (.ref b88), (.ref r_101)]))
    refine own_st (fun _ k => XS.iloadN X113.here hx rfl (hb hby at_139) rfl k) ?_
    show own_Gl _ _ _ _ _ _ _ (T113.setTop (mkF m 140 #[.val (.int p1), .val (.int p2), .val (.int (3 : Int32)), .val (.ref b88), .val (.ref r_101)] [(.int p2), (.int (3 : Int32)), (.int (3 : Int32)), (.ref b88), (.ref r_101)]))
    obtain ⟨_, _, ⟨T115, L115, k115, n115⟩, -, X115, ⟨Lc115, hQ115, l115, y115, z115⟩, st115⟩ := Jvm.LawKit.callS X113 hx (y := (⟨"com/example/assayline/assayline/protocol/MllpFramePinLaw", "slot", "([B[BIII)Z"⟩ : MethodName)) hown (mvT hZ (hw _ (List.mem_of_getElem? (i := 10) rfl))) (mvT hZ (hw _ (List.mem_of_getElem? (i := 11) rfl))) (mvT hZ (hw _ (List.mem_of_getElem? (i := 12) rfl))) (mvT hZ (hw _ (List.mem_of_getElem? (i := 13) rfl))) (by decide) (backOf (W := 0) (own_slot0 l Z a0 hw [] r_101 b88 (3 : Int32) (3 : Int32) p2 hh101 n0 Zs103 (by decide)) hZ (hw _ (List.mem_of_getElem? (i := 13) rfl)) (hw _ (List.mem_of_getElem? (i := 12) rfl)) (by decide) (by decide)) (g := (mkF m 140 #[.val (.int p1), .val (.int p2), .val (.int (3 : Int32)), .val (.ref b88), .val (.ref r_101)] [(.int p2), (.int (3 : Int32)), (.int (3 : Int32)), (.ref b88), (.ref r_101)])) rfl (by rw [hml]; rfl) (argsL := [(.ref r_101), (.ref b88), (.int (3 : Int32)), (.int (3 : Int32)), (.int p2)]) (rest := []) (lenOf own_pd585243724 rfl) rfl (by show 2 * 0 + _ ≤ _; exact Nat.le_of_eq rfl) (hb hby at_140) (fun _ _ => ⟨rfl, e113, (by decide : 2 + 0 ≤ room_1.cells), (by decide : 9 + 0 ≤ room_1.slots)⟩)
    dsimp only [Pt.U, Pt.locs, Pt.cells, Pt.slots] at X115 l115 y115 z115 st115 hQ115
    subst l115 y115 z115
    obtain ⟨hh115, eh0115⟩ : ∃ z, T115.heap = z := ⟨_, rfl⟩
    rw [eh0115] at hQ115
    obtain ⟨rfl, Nq115, eh115⟩ := hQ115
    have N115 := Fr.app N113 Nq115
    refine own_st st115 ?_
    have e115 : T115.heap = hh101 := eh0115.trans eh115
    show own_Gl _ _ _ _ _ _ _ (T115.setTop (mkF m 143 #[.val (.int p1), .val (.int p2), .val (.int (3 : Int32)), .val (.ref b88), .val (.ref r_101)] [(.int (1 : Int32))]))
    have hd116 : ¬ ((1 : Int32) = (0 : Int32)) := (by decide)
    refine own_st (fun _ k => XS.ifYes X115.here hx rfl (pc0 := 143) (pc' := 148) rfl (hb hby at_143) rfl ((if0 _ _).trans (feq hd116).2) (by decide) (by decide) k) ?_
    show own_Gl _ _ _ _ _ _ _ (T115.setTop (mkF m 148 #[.val (.int p1), .val (.int p2), .val (.int (3 : Int32)), .val (.ref b88), .val (.ref r_101)] []))
    refine own_st (fun _ k => XS.aload X115.here hx rfl (hb hby at_148) rfl rfl k) ?_
    show own_Gl _ _ _ _ _ _ _ (T115.setTop (mkF m 150 #[.val (.int p1), .val (.int p2), .val (.int (3 : Int32)), .val (.ref b88), .val (.ref r_101)] [(.ref r_101)]))
    refine own_st (fun _ k => XS.iloadN X115.here hx rfl (hb hby at_150) rfl k) ?_
    show own_Gl _ _ _ _ _ _ _ (T115.setTop (mkF m 151 #[.val (.int p1), .val (.int p2), .val (.int (3 : Int32)), .val (.ref b88), .val (.ref r_101)] [(.int (3 : Int32)), (.ref r_101)]))
    refine own_st (fun _ k => XS.iconst X115.here hx rfl (hb hby at_151) k) ?_
    show own_Gl _ _ _ _ _ _ _ (T115.setTop (mkF m 152 #[.val (.int p1), .val (.int p2), .val (.int (3 : Int32)), .val (.ref b88), .val (.ref r_101)] [(.int (1 : Int32)), (.int (3 : Int32)), (.ref r_101)]))
    refine own_st (fun _ k => XS.iadd X115.here hx rfl (hb hby at_152) rfl k) ?_
    show own_Gl _ _ _ _ _ _ _ (T115.setTop (mkF m 153 #[.val (.int p1), .val (.int p2), .val (.int (3 : Int32)), .val (.ref b88), .val (.ref r_101)] [(.int (4 : Int32)), (.ref r_101)]))
    obtain ⟨cl117, Ar117, qq117, Ss117, Nn117, Hh117, Gg117⟩ := id P101_2
    have hin117 : ¬ ((4 : Int32) < 0 ∨ cl117.slots.size ≤ ((4 : Int32)).toNatClampNeg) := inb_of Ss117 ⟨by decide, by decide⟩
    have hat117 : cl117.slots[((4 : Int32)).toNatClampNeg]? = some (.int (nar .byte (28 : Int32))) := Hh117.at hin117 (rfl)
    refine own_st (X115.baloadBytes hx (j := (4 : Int32)) (v := (.int (nar .byte (28 : Int32)))) (by rw [e115]; exact Ar117.1) (State.isArrayOf_alike hZ.alike Ar117.2.1) Ar117.2.2 hin117 hat117 (g := (mkF m 153 #[.val (.int p1), .val (.int p2), .val (.int (3 : Int32)), .val (.ref b88), .val (.ref r_101)] [(.int (4 : Int32)), (.ref r_101)])) rfl rfl (hb hby at_153)) ?_
    show own_Gl _ _ _ _ _ _ _ (T115.setTop (mkF m 154 #[.val (.int p1), .val (.int p2), .val (.int (3 : Int32)), .val (.ref b88), .val (.ref r_101)] [(.int (nar .byte (28 : Int32)))]))
    refine own_st (fun _ k => XS.bipush X115.here hx rfl (hb hby at_154) k) ?_
    show own_Gl _ _ _ _ _ _ _ (T115.setTop (mkF m 156 #[.val (.int p1), .val (.int p2), .val (.int (3 : Int32)), .val (.ref b88), .val (.ref r_101)] [(.int (28 : Int32)), (.int (nar .byte (28 : Int32)))]))
    have hd118 : (nar .byte (28 : Int32)) = (28 : Int32) := (by decide)
    refine own_st (fun _ k => XS.icmpYes X115.here hx rfl (pc0 := 156) (pc' := 161) rfl (hb hby at_156) rfl (teq hd118).1 (by decide) (by decide) k) ?_
    show own_Gl _ _ _ _ _ _ _ (T115.setTop (mkF m 161 #[.val (.int p1), .val (.int p2), .val (.int (3 : Int32)), .val (.ref b88), .val (.ref r_101)] []))
    refine own_st (fun _ k => XS.aload X115.here hx rfl (hb hby at_161) rfl rfl k) ?_
    show own_Gl _ _ _ _ _ _ _ (T115.setTop (mkF m 163 #[.val (.int p1), .val (.int p2), .val (.int (3 : Int32)), .val (.ref b88), .val (.ref r_101)] [(.ref r_101)]))
    refine own_st (fun _ k => XS.iloadN X115.here hx rfl (hb hby at_163) rfl k) ?_
    show own_Gl _ _ _ _ _ _ _ (T115.setTop (mkF m 164 #[.val (.int p1), .val (.int p2), .val (.int (3 : Int32)), .val (.ref b88), .val (.ref r_101)] [(.int (3 : Int32)), (.ref r_101)]))
    refine own_st (fun _ k => XS.iconst X115.here hx rfl (hb hby at_164) k) ?_
    show own_Gl _ _ _ _ _ _ _ (T115.setTop (mkF m 165 #[.val (.int p1), .val (.int p2), .val (.int (3 : Int32)), .val (.ref b88), .val (.ref r_101)] [(.int (2 : Int32)), (.int (3 : Int32)), (.ref r_101)]))
    refine own_st (fun _ k => XS.iadd X115.here hx rfl (hb hby at_165) rfl k) ?_
    show own_Gl _ _ _ _ _ _ _ (T115.setTop (mkF m 166 #[.val (.int p1), .val (.int p2), .val (.int (3 : Int32)), .val (.ref b88), .val (.ref r_101)] [(.int (5 : Int32)), (.ref r_101)]))
    obtain ⟨cl119, Ar119, qq119, Ss119, Nn119, Hh119, Gg119⟩ := id P101_2
    have hin119 : ¬ ((5 : Int32) < 0 ∨ cl119.slots.size ≤ ((5 : Int32)).toNatClampNeg) := inb_of Ss119 ⟨by decide, by decide⟩
    have hat119 : cl119.slots[((5 : Int32)).toNatClampNeg]? = some (.int (nar .byte (13 : Int32))) := Hh119.at hin119 (rfl)
    refine own_st (X115.baloadBytes hx (j := (5 : Int32)) (v := (.int (nar .byte (13 : Int32)))) (by rw [e115]; exact Ar119.1) (State.isArrayOf_alike hZ.alike Ar119.2.1) Ar119.2.2 hin119 hat119 (g := (mkF m 166 #[.val (.int p1), .val (.int p2), .val (.int (3 : Int32)), .val (.ref b88), .val (.ref r_101)] [(.int (5 : Int32)), (.ref r_101)])) rfl rfl (hb hby at_166)) ?_
    show own_Gl _ _ _ _ _ _ _ (T115.setTop (mkF m 167 #[.val (.int p1), .val (.int p2), .val (.int (3 : Int32)), .val (.ref b88), .val (.ref r_101)] [(.int (nar .byte (13 : Int32)))]))
    refine own_st (fun _ k => XS.bipush X115.here hx rfl (hb hby at_167) k) ?_
    show own_Gl _ _ _ _ _ _ _ (T115.setTop (mkF m 169 #[.val (.int p1), .val (.int p2), .val (.int (3 : Int32)), .val (.ref b88), .val (.ref r_101)] [(.int (13 : Int32)), (.int (nar .byte (13 : Int32)))]))
    have hd120 : (nar .byte (13 : Int32)) = (13 : Int32) := (by decide)
    refine own_st (fun _ k => XS.icmpYes X115.here hx rfl (pc0 := 169) (pc' := 174) rfl (hb hby at_169) rfl (teq hd120).1 (by decide) (by decide) k) ?_
    show own_Gl _ _ _ _ _ _ _ (T115.setTop (mkF m 174 #[.val (.int p1), .val (.int p2), .val (.int (3 : Int32)), .val (.ref b88), .val (.ref r_101)] []))
    refine own_st (fun _ k => XS.iconst X115.here hx rfl (hb hby at_174) k) ?_
    show own_Gl _ _ _ _ _ _ _ (T115.setTop (mkF m 175 #[.val (.int p1), .val (.int p2), .val (.int (3 : Int32)), .val (.ref b88), .val (.ref r_101)] [(.int (1 : Int32))]))
    exact own_retN X115 hx hlk (t := .boolean) hret (by simp) (hb hby at_175) e115 ⟨rfl, N115⟩ (by decide) (by decide)
  · rw [hk]
    show own_Gl _ _ _ _ _ _ _ (s₁.setTop (mkF m 7 #[.val (.int p1), .val (.int p2), .val (.int (4 : Int32)), .unset, .unset] []))
    refine own_st (fun _ k => XS.iloadN X0.here hx rfl (hb hby at_7) rfl k) ?_
    show own_Gl _ _ _ _ _ _ _ (s₁.setTop (mkF m 8 #[.val (.int p1), .val (.int p2), .val (.int (4 : Int32)), .unset, .unset] [(.int (4 : Int32))]))
    obtain ⟨T121, h121, k121, X121, e121, E121, A121, st121⟩ := newP X0 hx hZ (hw _ (List.mem_of_getElem? (i := 1) rfl)) e0 (g := (mkF m 8 #[.val (.int p1), .val (.int p2), .val (.int (4 : Int32)), .unset, .unset] [(.int (4 : Int32))])) rfl (hb hby at_8) rfl (by decide) (cap := 4) (by decide) (by decide) (by decide) (by decide)
    obtain ⟨b121, gb121⟩ : ∃ z, z = h0.size := ⟨_, rfl⟩
    rw [← gb121] at A121 st121
    refine own_st st121 ?_
    have Zs122 : n0 ≤ h121.size := Nat.le_trans Z0 E121.1
    have g_b121 : n0 ≤ b121 := Nat.le_trans Z0 (Nat.le_of_eq gb121.symm)
    have gh_b121 : h0.size ≤ b121 := Nat.le_trans (Keep.refl h0 []).1 (Nat.le_of_eq gb121.symm)
    have V_b121 : Arv Z h121 b121 k121 .byte (4 : Int32) [(.int (0 : Int32)), (.int (0 : Int32)), (.int (0 : Int32)), (.int (0 : Int32))] (.int (0 : Int32)) := (Arv.new A121 (by decide)).pad (pad_rep [] (.int (0 : Int32)) 4)
    show own_Gl _ _ _ _ _ _ _ (T121.setTop (mkF m 10 #[.val (.int p1), .val (.int p2), .val (.int (4 : Int32)), .unset, .unset] [(.ref b121)]))
    refine own_st (fun _ k => XS.astoreN X121.here hx rfl (hb hby at_10) rfl rfl (l' := #[.val (.int p1), .val (.int p2), .val (.int (4 : Int32)), .val (.ref b121), .unset]) rfl k) ?_
    show own_Gl _ _ _ _ _ _ _ (T121.setTop (mkF m 11 #[.val (.int p1), .val (.int p2), .val (.int (4 : Int32)), .val (.ref b121), .unset] []))
    refine own_st (fun _ k => XS.iloadN X121.here hx rfl (hb hby at_11) rfl k) ?_
    show own_Gl _ _ _ _ _ _ _ (T121.setTop (mkF m 12 #[.val (.int p1), .val (.int p2), .val (.int (4 : Int32)), .val (.ref b121), .unset] [(.int (4 : Int32))]))
    have hd124 : (0 : Int32) < (4 : Int32) := (by decide)
    refine own_st (fun _ k => XS.ifNo X121.here hx rfl (hb hby at_12) rfl ((if0 _ _).trans (tlt hd124).2.2.2) k) ?_
    show own_Gl _ _ _ _ _ _ _ (T121.setTop (mkF m 15 #[.val (.int p1), .val (.int p2), .val (.int (4 : Int32)), .val (.ref b121), .unset] []))
    refine own_st (fun _ k => XS.aloadN X121.here hx rfl (hb hby at_15) rfl rfl k) ?_
    show own_Gl _ _ _ _ _ _ _ (T121.setTop (mkF m 16 #[.val (.int p1), .val (.int p2), .val (.int (4 : Int32)), .val (.ref b121), .unset] [(.ref b121)]))
    refine own_st (fun _ k => XS.iconst X121.here hx rfl (hb hby at_16) k) ?_
    show own_Gl _ _ _ _ _ _ _ (T121.setTop (mkF m 17 #[.val (.int p1), .val (.int p2), .val (.int (4 : Int32)), .val (.ref b121), .unset] [(.int (0 : Int32)), (.ref b121)]))
    refine own_st (fun _ k => XS.iloadN X121.here hx rfl (hb hby at_17) rfl k) ?_
    show own_Gl _ _ _ _ _ _ _ (T121.setTop (mkF m 18 #[.val (.int p1), .val (.int p2), .val (.int (4 : Int32)), .val (.ref b121), .unset] [(.int p2), (.int (0 : Int32)), (.ref b121)]))
    refine own_st (fun _ k => XS.i2b X121.here hx rfl (hb hby at_18) rfl k) ?_
    show own_Gl _ _ _ _ _ _ _ (T121.setTop (mkF m 19 #[.val (.int p1), .val (.int p2), .val (.int (4 : Int32)), .val (.ref b121), .unset] [(.int (p2.toInt8.toInt32)), (.int (0 : Int32)), (.ref b121)]))
    obtain ⟨cl125, Ar125, qq125, Ss125, Nn125, Hh125, Gg125⟩ := id V_b121
    have hin125 : ¬ ((0 : Int32) < 0 ∨ cl125.slots.size ≤ ((0 : Int32)).toNatClampNeg) := inb_of Ss125 ⟨by decide, by decide⟩
    obtain ⟨T125, h125, X125, e125, W125, st125⟩ := stB X121 hx hZ e121 Ar125 (j := (0 : Int32)) hin125 (g := (mkF m 19 #[.val (.int p1), .val (.int p2), .val (.int (4 : Int32)), .val (.ref b121), .unset] [(.int (p2.toInt8.toInt32)), (.int (0 : Int32)), (.ref b121)])) rfl rfl (hb hby at_19)
    have N125 := Fr.snoc X125 N0 g_b121
    refine own_st st125 ?_
    have Zs126 : n0 ≤ h125.size := Nat.le_trans Zs122 (Keep.of_wr W125).1
    have Vw125 : Arv Z h125 b121 k121 .byte (4 : Int32) [(.int (nar .byte (p2.toInt8.toInt32))), (.int (0 : Int32)), (.int (0 : Int32)), (.int (0 : Int32))] (.int (0 : Int32)) := Arv.set Ar125 qq125 Ss125 Nn125 Hh125 Gg125 (fits_nar_byte _) W125 0 (rfl) (Nat.le_of_ble_eq_true rfl)
    show own_Gl _ _ _ _ _ _ _ (T125.setTop (mkF m 20 #[.val (.int p1), .val (.int p2), .val (.int (4 : Int32)), .val (.ref b121), .unset] []))
    refine own_st (fun _ k => XS.iloadN X125.here hx rfl (hb hby at_20) rfl k) ?_
    show own_Gl _ _ _ _ _ _ _ (T125.setTop (mkF m 21 #[.val (.int p1), .val (.int p2), .val (.int (4 : Int32)), .val (.ref b121), .unset] [(.int (4 : Int32))]))
    refine own_st (fun _ k => XS.iconst X125.here hx rfl (hb hby at_21) k) ?_
    show own_Gl _ _ _ _ _ _ _ (T125.setTop (mkF m 22 #[.val (.int p1), .val (.int p2), .val (.int (4 : Int32)), .val (.ref b121), .unset] [(.int (1 : Int32)), (.int (4 : Int32))]))
    have hd127 : (1 : Int32) < (4 : Int32) := (by decide)
    refine own_st (fun _ k => XS.icmpNo X125.here hx rfl (hb hby at_22) rfl (tlt hd127).2.2.2 k) ?_
    show own_Gl _ _ _ _ _ _ _ (T125.setTop (mkF m 25 #[.val (.int p1), .val (.int p2), .val (.int (4 : Int32)), .val (.ref b121), .unset] []))
    refine own_st (fun _ k => XS.aloadN X125.here hx rfl (hb hby at_25) rfl rfl k) ?_
    show own_Gl _ _ _ _ _ _ _ (T125.setTop (mkF m 26 #[.val (.int p1), .val (.int p2), .val (.int (4 : Int32)), .val (.ref b121), .unset] [(.ref b121)]))
    refine own_st (fun _ k => XS.iconst X125.here hx rfl (hb hby at_26) k) ?_
    show own_Gl _ _ _ _ _ _ _ (T125.setTop (mkF m 27 #[.val (.int p1), .val (.int p2), .val (.int (4 : Int32)), .val (.ref b121), .unset] [(.int (1 : Int32)), (.ref b121)]))
    refine own_st (fun _ k => XS.iloadN X125.here hx rfl (hb hby at_27) rfl k) ?_
    show own_Gl _ _ _ _ _ _ _ (T125.setTop (mkF m 28 #[.val (.int p1), .val (.int p2), .val (.int (4 : Int32)), .val (.ref b121), .unset] [(.int p2), (.int (1 : Int32)), (.ref b121)]))
    refine own_st (fun _ k => XS.bipush X125.here hx rfl (hb hby at_28) k) ?_
    show own_Gl _ _ _ _ _ _ _ (T125.setTop (mkF m 30 #[.val (.int p1), .val (.int p2), .val (.int (4 : Int32)), .val (.ref b121), .unset] [(.int (8 : Int32)), (.int p2), (.int (1 : Int32)), (.ref b121)]))
    refine own_st (fun _ k => XS.iushr X125.here hx rfl (hb hby at_30) rfl k) ?_
    show own_Gl _ _ _ _ _ _ _ (T125.setTop (mkF m 31 #[.val (.int p1), .val (.int p2), .val (.int (4 : Int32)), .val (.ref b121), .unset] [(.int ((p2.toUInt32 >>> ((8 : Int32) &&& 31).toUInt32).toInt32)), (.int (1 : Int32)), (.ref b121)]))
    refine own_st (fun _ k => XS.i2b X125.here hx rfl (hb hby at_31) rfl k) ?_
    show own_Gl _ _ _ _ _ _ _ (T125.setTop (mkF m 32 #[.val (.int p1), .val (.int p2), .val (.int (4 : Int32)), .val (.ref b121), .unset] [(.int (((p2.toUInt32 >>> ((8 : Int32) &&& 31).toUInt32).toInt32).toInt8.toInt32)), (.int (1 : Int32)), (.ref b121)]))
    obtain ⟨cl128, Ar128, qq128, Ss128, Nn128, Hh128, Gg128⟩ := id Vw125
    have hin128 : ¬ ((1 : Int32) < 0 ∨ cl128.slots.size ≤ ((1 : Int32)).toNatClampNeg) := inb_of Ss128 ⟨by decide, by decide⟩
    obtain ⟨T128, h128, X128, e128, W128, st128⟩ := stB X125 hx hZ e125 Ar128 (j := (1 : Int32)) hin128 (g := (mkF m 32 #[.val (.int p1), .val (.int p2), .val (.int (4 : Int32)), .val (.ref b121), .unset] [(.int (((p2.toUInt32 >>> ((8 : Int32) &&& 31).toUInt32).toInt32).toInt8.toInt32)), (.int (1 : Int32)), (.ref b121)])) rfl rfl (hb hby at_32)
    have N128 := Fr.snoc X128 N125 g_b121
    refine own_st st128 ?_
    have Zs129 : n0 ≤ h128.size := Nat.le_trans Zs126 (Keep.of_wr W128).1
    have Vw128 : Arv Z h128 b121 k121 .byte (4 : Int32) [(.int (nar .byte (p2.toInt8.toInt32))), (.int (nar .byte (((p2.toUInt32 >>> ((8 : Int32) &&& 31).toUInt32).toInt32).toInt8.toInt32))), (.int (0 : Int32)), (.int (0 : Int32))] (.int (0 : Int32)) := Arv.set Ar128 qq128 Ss128 Nn128 Hh128 Gg128 (fits_nar_byte _) W128 1 (rfl) (Nat.le_of_ble_eq_true rfl)
    show own_Gl _ _ _ _ _ _ _ (T128.setTop (mkF m 33 #[.val (.int p1), .val (.int p2), .val (.int (4 : Int32)), .val (.ref b121), .unset] []))
    refine own_st (fun _ k => XS.iloadN X128.here hx rfl (hb hby at_33) rfl k) ?_
    show own_Gl _ _ _ _ _ _ _ (T128.setTop (mkF m 34 #[.val (.int p1), .val (.int p2), .val (.int (4 : Int32)), .val (.ref b121), .unset] [(.int (4 : Int32))]))
    refine own_st (fun _ k => XS.iconst X128.here hx rfl (hb hby at_34) k) ?_
    show own_Gl _ _ _ _ _ _ _ (T128.setTop (mkF m 35 #[.val (.int p1), .val (.int p2), .val (.int (4 : Int32)), .val (.ref b121), .unset] [(.int (2 : Int32)), (.int (4 : Int32))]))
    have hd130 : (2 : Int32) < (4 : Int32) := (by decide)
    refine own_st (fun _ k => XS.icmpNo X128.here hx rfl (hb hby at_35) rfl (tlt hd130).2.2.2 k) ?_
    show own_Gl _ _ _ _ _ _ _ (T128.setTop (mkF m 38 #[.val (.int p1), .val (.int p2), .val (.int (4 : Int32)), .val (.ref b121), .unset] []))
    refine own_st (fun _ k => XS.aloadN X128.here hx rfl (hb hby at_38) rfl rfl k) ?_
    show own_Gl _ _ _ _ _ _ _ (T128.setTop (mkF m 39 #[.val (.int p1), .val (.int p2), .val (.int (4 : Int32)), .val (.ref b121), .unset] [(.ref b121)]))
    refine own_st (fun _ k => XS.iconst X128.here hx rfl (hb hby at_39) k) ?_
    show own_Gl _ _ _ _ _ _ _ (T128.setTop (mkF m 40 #[.val (.int p1), .val (.int p2), .val (.int (4 : Int32)), .val (.ref b121), .unset] [(.int (2 : Int32)), (.ref b121)]))
    refine own_st (fun _ k => XS.iloadN X128.here hx rfl (hb hby at_40) rfl k) ?_
    show own_Gl _ _ _ _ _ _ _ (T128.setTop (mkF m 41 #[.val (.int p1), .val (.int p2), .val (.int (4 : Int32)), .val (.ref b121), .unset] [(.int p2), (.int (2 : Int32)), (.ref b121)]))
    refine own_st (fun _ k => XS.bipush X128.here hx rfl (hb hby at_41) k) ?_
    show own_Gl _ _ _ _ _ _ _ (T128.setTop (mkF m 43 #[.val (.int p1), .val (.int p2), .val (.int (4 : Int32)), .val (.ref b121), .unset] [(.int (16 : Int32)), (.int p2), (.int (2 : Int32)), (.ref b121)]))
    refine own_st (fun _ k => XS.iushr X128.here hx rfl (hb hby at_43) rfl k) ?_
    show own_Gl _ _ _ _ _ _ _ (T128.setTop (mkF m 44 #[.val (.int p1), .val (.int p2), .val (.int (4 : Int32)), .val (.ref b121), .unset] [(.int ((p2.toUInt32 >>> ((16 : Int32) &&& 31).toUInt32).toInt32)), (.int (2 : Int32)), (.ref b121)]))
    refine own_st (fun _ k => XS.i2b X128.here hx rfl (hb hby at_44) rfl k) ?_
    show own_Gl _ _ _ _ _ _ _ (T128.setTop (mkF m 45 #[.val (.int p1), .val (.int p2), .val (.int (4 : Int32)), .val (.ref b121), .unset] [(.int (((p2.toUInt32 >>> ((16 : Int32) &&& 31).toUInt32).toInt32).toInt8.toInt32)), (.int (2 : Int32)), (.ref b121)]))
    obtain ⟨cl131, Ar131, qq131, Ss131, Nn131, Hh131, Gg131⟩ := id Vw128
    have hin131 : ¬ ((2 : Int32) < 0 ∨ cl131.slots.size ≤ ((2 : Int32)).toNatClampNeg) := inb_of Ss131 ⟨by decide, by decide⟩
    obtain ⟨T131, h131, X131, e131, W131, st131⟩ := stB X128 hx hZ e128 Ar131 (j := (2 : Int32)) hin131 (g := (mkF m 45 #[.val (.int p1), .val (.int p2), .val (.int (4 : Int32)), .val (.ref b121), .unset] [(.int (((p2.toUInt32 >>> ((16 : Int32) &&& 31).toUInt32).toInt32).toInt8.toInt32)), (.int (2 : Int32)), (.ref b121)])) rfl rfl (hb hby at_45)
    have N131 := Fr.snoc X131 N128 g_b121
    refine own_st st131 ?_
    have Zs132 : n0 ≤ h131.size := Nat.le_trans Zs129 (Keep.of_wr W131).1
    have Vw131 : Arv Z h131 b121 k121 .byte (4 : Int32) [(.int (nar .byte (p2.toInt8.toInt32))), (.int (nar .byte (((p2.toUInt32 >>> ((8 : Int32) &&& 31).toUInt32).toInt32).toInt8.toInt32))), (.int (nar .byte (((p2.toUInt32 >>> ((16 : Int32) &&& 31).toUInt32).toInt32).toInt8.toInt32))), (.int (0 : Int32))] (.int (0 : Int32)) := Arv.set Ar131 qq131 Ss131 Nn131 Hh131 Gg131 (fits_nar_byte _) W131 2 (rfl) (Nat.le_of_ble_eq_true rfl)
    show own_Gl _ _ _ _ _ _ _ (T131.setTop (mkF m 46 #[.val (.int p1), .val (.int p2), .val (.int (4 : Int32)), .val (.ref b121), .unset] []))
    refine own_st (fun _ k => XS.iloadN X131.here hx rfl (hb hby at_46) rfl k) ?_
    show own_Gl _ _ _ _ _ _ _ (T131.setTop (mkF m 47 #[.val (.int p1), .val (.int p2), .val (.int (4 : Int32)), .val (.ref b121), .unset] [(.int (4 : Int32))]))
    refine own_st (fun _ k => XS.iconst X131.here hx rfl (hb hby at_47) k) ?_
    show own_Gl _ _ _ _ _ _ _ (T131.setTop (mkF m 48 #[.val (.int p1), .val (.int p2), .val (.int (4 : Int32)), .val (.ref b121), .unset] [(.int (3 : Int32)), (.int (4 : Int32))]))
    have hd133 : (3 : Int32) < (4 : Int32) := (by decide)
    refine own_st (fun _ k => XS.icmpNo X131.here hx rfl (hb hby at_48) rfl (tlt hd133).2.2.2 k) ?_
    show own_Gl _ _ _ _ _ _ _ (T131.setTop (mkF m 51 #[.val (.int p1), .val (.int p2), .val (.int (4 : Int32)), .val (.ref b121), .unset] []))
    refine own_st (fun _ k => XS.aloadN X131.here hx rfl (hb hby at_51) rfl rfl k) ?_
    show own_Gl _ _ _ _ _ _ _ (T131.setTop (mkF m 52 #[.val (.int p1), .val (.int p2), .val (.int (4 : Int32)), .val (.ref b121), .unset] [(.ref b121)]))
    refine own_st (fun _ k => XS.iconst X131.here hx rfl (hb hby at_52) k) ?_
    show own_Gl _ _ _ _ _ _ _ (T131.setTop (mkF m 53 #[.val (.int p1), .val (.int p2), .val (.int (4 : Int32)), .val (.ref b121), .unset] [(.int (3 : Int32)), (.ref b121)]))
    refine own_st (fun _ k => XS.iloadN X131.here hx rfl (hb hby at_53) rfl k) ?_
    show own_Gl _ _ _ _ _ _ _ (T131.setTop (mkF m 54 #[.val (.int p1), .val (.int p2), .val (.int (4 : Int32)), .val (.ref b121), .unset] [(.int p2), (.int (3 : Int32)), (.ref b121)]))
    refine own_st (fun _ k => XS.bipush X131.here hx rfl (hb hby at_54) k) ?_
    show own_Gl _ _ _ _ _ _ _ (T131.setTop (mkF m 56 #[.val (.int p1), .val (.int p2), .val (.int (4 : Int32)), .val (.ref b121), .unset] [(.int (24 : Int32)), (.int p2), (.int (3 : Int32)), (.ref b121)]))
    refine own_st (fun _ k => XS.iushr X131.here hx rfl (hb hby at_56) rfl k) ?_
    show own_Gl _ _ _ _ _ _ _ (T131.setTop (mkF m 57 #[.val (.int p1), .val (.int p2), .val (.int (4 : Int32)), .val (.ref b121), .unset] [(.int ((p2.toUInt32 >>> ((24 : Int32) &&& 31).toUInt32).toInt32)), (.int (3 : Int32)), (.ref b121)]))
    refine own_st (fun _ k => XS.i2b X131.here hx rfl (hb hby at_57) rfl k) ?_
    show own_Gl _ _ _ _ _ _ _ (T131.setTop (mkF m 58 #[.val (.int p1), .val (.int p2), .val (.int (4 : Int32)), .val (.ref b121), .unset] [(.int (((p2.toUInt32 >>> ((24 : Int32) &&& 31).toUInt32).toInt32).toInt8.toInt32)), (.int (3 : Int32)), (.ref b121)]))
    obtain ⟨cl134, Ar134, qq134, Ss134, Nn134, Hh134, Gg134⟩ := id Vw131
    have hin134 : ¬ ((3 : Int32) < 0 ∨ cl134.slots.size ≤ ((3 : Int32)).toNatClampNeg) := inb_of Ss134 ⟨by decide, by decide⟩
    obtain ⟨T134, h134, X134, e134, W134, st134⟩ := stB X131 hx hZ e131 Ar134 (j := (3 : Int32)) hin134 (g := (mkF m 58 #[.val (.int p1), .val (.int p2), .val (.int (4 : Int32)), .val (.ref b121), .unset] [(.int (((p2.toUInt32 >>> ((24 : Int32) &&& 31).toUInt32).toInt32).toInt8.toInt32)), (.int (3 : Int32)), (.ref b121)])) rfl rfl (hb hby at_58)
    have N134 := Fr.snoc X134 N131 g_b121
    refine own_st st134 ?_
    have Zs135 : n0 ≤ h134.size := Nat.le_trans Zs132 (Keep.of_wr W134).1
    have Vw134 : Arv Z h134 b121 k121 .byte (4 : Int32) [(.int (nar .byte (p2.toInt8.toInt32))), (.int (nar .byte (((p2.toUInt32 >>> ((8 : Int32) &&& 31).toUInt32).toInt32).toInt8.toInt32))), (.int (nar .byte (((p2.toUInt32 >>> ((16 : Int32) &&& 31).toUInt32).toInt32).toInt8.toInt32))), (.int (nar .byte (((p2.toUInt32 >>> ((24 : Int32) &&& 31).toUInt32).toInt32).toInt8.toInt32)))] (.int (0 : Int32)) := Arv.set Ar134 qq134 Ss134 Nn134 Hh134 Gg134 (fits_nar_byte _) W134 3 (rfl) (Nat.le_of_ble_eq_true rfl)
    show own_Gl _ _ _ _ _ _ _ (T134.setTop (mkF m 59 #[.val (.int p1), .val (.int p2), .val (.int (4 : Int32)), .val (.ref b121), .unset] []))
    refine own_st (fun _ k => XS.aloadN X134.here hx rfl (hb hby at_59) rfl rfl k) ?_
    show own_Gl _ _ _ _ _ _ _ (T134.setTop (mkF m 60 #[.val (.int p1), .val (.int p2), .val (.int (4 : Int32)), .val (.ref b121), .unset] [(.ref b121)]))
    obtain ⟨_, _, ⟨T136, L136, k136, n136⟩, -, X136, ⟨Lc136, hQ136, l136, y136, z136⟩, st136⟩ := Jvm.LawKit.callS X134 hx (y := (⟨"com/example/assayline/assayline/protocol/Mllp", "frame", "([B)[B"⟩ : MethodName)) hown (mvT hZ (hw _ (List.mem_of_getElem? (i := 2) rfl))) (mvT hZ (hw _ (List.mem_of_getElem? (i := 3) rfl))) (mvT hZ (hw _ (List.mem_of_getElem? (i := 4) rfl))) (mvT hZ (hw _ (List.mem_of_getElem? (i := 5) rfl))) (by decide) (backOf (W := 0) (own_frame4 l Z a0 hw [] b121 k121 (nar .byte (p2.toInt8.toInt32)) (nar .byte (((p2.toUInt32 >>> ((8 : Int32) &&& 31).toUInt32).toInt32).toInt8.toInt32)) (nar .byte (((p2.toUInt32 >>> ((16 : Int32) &&& 31).toUInt32).toInt32).toInt8.toInt32)) (nar .byte (((p2.toUInt32 >>> ((24 : Int32) &&& 31).toUInt32).toInt32).toInt8.toInt32)) h134 n0 Zs135 Vw134) hZ (hw _ (List.mem_of_getElem? (i := 5) rfl)) (hw _ (List.mem_of_getElem? (i := 4) rfl)) (by decide) (by decide)) (g := (mkF m 60 #[.val (.int p1), .val (.int p2), .val (.int (4 : Int32)), .val (.ref b121), .unset] [(.ref b121)])) rfl (by rw [hml]; rfl) (argsL := [(.ref b121)]) (rest := []) (lenOf own_pd128168445 rfl) rfl (by show 2 * 0 + _ ≤ _; exact Nat.le_of_eq rfl) (hb hby at_60) (fun _ _ => ⟨rfl, e134, (by decide : 1 + 1 ≤ room_1.cells), (by decide : 4 + 7 ≤ room_1.slots)⟩)
    dsimp only [Pt.U, Pt.locs, Pt.cells, Pt.slots] at X136 l136 y136 z136 st136 hQ136
    subst l136 y136 z136
    obtain ⟨hh136, eh0136⟩ : ∃ z, T136.heap = z := ⟨_, rfl⟩
    rw [eh0136] at hQ136
    obtain ⟨r_136, kr_136, rfl, Nq136, Kq136, P136_0, P136_1, P136_2⟩ := hQ136
    have N136 := Fr.app N134 Nq136
    refine own_st st136 ?_
    have K137 : Keep h0 h134 [] := ((((((Keep.refl h0 []).ext E121).wr W125 (Or.inr gh_b121)).wr W128 (Or.inr gh_b121)).wr W131 (Or.inr gh_b121)).wr W134 (Or.inr gh_b121))
    have Zs138 : n0 ≤ hh136.size := Nat.le_trans Zs135 Kq136.1
    have gh_r_136 : h0.size ≤ r_136 := Nat.le_trans K137.1 P136_1
    have ne_b121_r_136 : b121 ≠ r_136 := Nat.ne_of_lt (Nat.lt_of_lt_of_le Vw134.lt P136_1)
    show own_Gl _ _ _ _ _ _ _ (T136.setTop (mkF m 63 #[.val (.int p1), .val (.int p2), .val (.int (4 : Int32)), .val (.ref b121), .unset] [(.ref r_136)]))
    refine own_st (fun _ k => XS.astore X136.here hx rfl (hb hby at_63) rfl rfl (l' := #[.val (.int p1), .val (.int p2), .val (.int (4 : Int32)), .val (.ref b121), .val (.ref r_136)]) rfl k) ?_
    show own_Gl _ _ _ _ _ _ _ (T136.setTop (mkF m 65 #[.val (.int p1), .val (.int p2), .val (.int (4 : Int32)), .val (.ref b121), .val (.ref r_136)] []))
    refine own_st (fun _ k => XS.aload X136.here hx rfl (hb hby at_65) rfl rfl k) ?_
    show own_Gl _ _ _ _ _ _ _ (T136.setTop (mkF m 67 #[.val (.int p1), .val (.int p2), .val (.int (4 : Int32)), .val (.ref b121), .val (.ref r_136)] [(.ref r_136)]))
    refine own_st (fun _ k => XS.ifnullNo X136.here hx rfl (hb hby at_67) rfl k) ?_
    show own_Gl _ _ _ _ _ _ _ (T136.setTop (mkF m 70 #[.val (.int p1), .val (.int p2), .val (.int (4 : Int32)), .val (.ref b121), .val (.ref r_136)] []))
    refine own_st (fun _ k => XS.aload X136.here hx rfl (hb hby at_70) rfl rfl k) ?_
    show own_Gl _ _ _ _ _ _ _ (T136.setTop (mkF m 72 #[.val (.int p1), .val (.int p2), .val (.int (4 : Int32)), .val (.ref b121), .val (.ref r_136)] [(.ref r_136)]))
    obtain ⟨cl139, Ar139, qq139, Ss139, Nn139, Hh139, Gg139⟩ := id P136_2
    refine own_st (X136.arraylength hx (by rw [eh0136]; exact Ar139.1) (State.isArrayOf_alike hZ.alike Ar139.2.1) (g := (mkF m 72 #[.val (.int p1), .val (.int p2), .val (.int (4 : Int32)), .val (.ref b121), .val (.ref r_136)] [(.ref r_136)])) rfl rfl (hb hby at_72)) ?_
    rw [len_of Ss139 Nn139]
    show own_Gl _ _ _ _ _ _ _ (T136.setTop (mkF m 73 #[.val (.int p1), .val (.int p2), .val (.int (4 : Int32)), .val (.ref b121), .val (.ref r_136)] [(.int (7 : Int32))]))
    refine own_st (fun _ k => XS.iloadN X136.here hx rfl (hb hby at_73) rfl k) ?_
    show own_Gl _ _ _ _ _ _ _ (T136.setTop (mkF m 74 #[.val (.int p1), .val (.int p2), .val (.int (4 : Int32)), .val (.ref b121), .val (.ref r_136)] [(.int (4 : Int32)), (.int (7 : Int32))]))
    refine own_st (fun _ k => XS.iconst X136.here hx rfl (hb hby at_74) k) ?_
    show own_Gl _ _ _ _ _ _ _ (T136.setTop (mkF m 75 #[.val (.int p1), .val (.int p2), .val (.int (4 : Int32)), .val (.ref b121), .val (.ref r_136)] [(.int (3 : Int32)), (.int (4 : Int32)), (.int (7 : Int32))]))
    refine own_st (fun _ k => XS.iadd X136.here hx rfl (hb hby at_75) rfl k) ?_
    show own_Gl _ _ _ _ _ _ _ (T136.setTop (mkF m 76 #[.val (.int p1), .val (.int p2), .val (.int (4 : Int32)), .val (.ref b121), .val (.ref r_136)] [(.int (7 : Int32)), (.int (7 : Int32))]))
    have hd140 : (7 : Int32) = (7 : Int32) := (by decide)
    refine own_st (fun _ k => XS.icmpYes X136.here hx rfl (pc0 := 76) (pc' := 81) rfl (hb hby at_76) rfl (teq hd140).1 (by decide) (by decide) k) ?_
    show own_Gl _ _ _ _ _ _ _ (T136.setTop (mkF m 81 #[.val (.int p1), .val (.int p2), .val (.int (4 : Int32)), .val (.ref b121), .val (.ref r_136)] []))
    refine own_st (fun _ k => XS.aload X136.here hx rfl (hb hby at_81) rfl rfl k) ?_
    show own_Gl _ _ _ _ _ _ _ (T136.setTop (mkF m 83 #[.val (.int p1), .val (.int p2), .val (.int (4 : Int32)), .val (.ref b121), .val (.ref r_136)] [(.ref r_136)]))
    refine own_st (fun _ k => XS.iconst X136.here hx rfl (hb hby at_83) k) ?_
    show own_Gl _ _ _ _ _ _ _ (T136.setTop (mkF m 84 #[.val (.int p1), .val (.int p2), .val (.int (4 : Int32)), .val (.ref b121), .val (.ref r_136)] [(.int (0 : Int32)), (.ref r_136)]))
    obtain ⟨cl141, Ar141, qq141, Ss141, Nn141, Hh141, Gg141⟩ := id P136_2
    have hin141 : ¬ ((0 : Int32) < 0 ∨ cl141.slots.size ≤ ((0 : Int32)).toNatClampNeg) := inb_of Ss141 ⟨by decide, by decide⟩
    have hat141 : cl141.slots[((0 : Int32)).toNatClampNeg]? = some (.int (nar .byte (11 : Int32))) := Hh141.at hin141 (rfl)
    refine own_st (X136.baloadBytes hx (j := (0 : Int32)) (v := (.int (nar .byte (11 : Int32)))) (by rw [eh0136]; exact Ar141.1) (State.isArrayOf_alike hZ.alike Ar141.2.1) Ar141.2.2 hin141 hat141 (g := (mkF m 84 #[.val (.int p1), .val (.int p2), .val (.int (4 : Int32)), .val (.ref b121), .val (.ref r_136)] [(.int (0 : Int32)), (.ref r_136)])) rfl rfl (hb hby at_84)) ?_
    show own_Gl _ _ _ _ _ _ _ (T136.setTop (mkF m 85 #[.val (.int p1), .val (.int p2), .val (.int (4 : Int32)), .val (.ref b121), .val (.ref r_136)] [(.int (nar .byte (11 : Int32)))]))
    refine own_st (fun _ k => XS.bipush X136.here hx rfl (hb hby at_85) k) ?_
    show own_Gl _ _ _ _ _ _ _ (T136.setTop (mkF m 87 #[.val (.int p1), .val (.int p2), .val (.int (4 : Int32)), .val (.ref b121), .val (.ref r_136)] [(.int (11 : Int32)), (.int (nar .byte (11 : Int32)))]))
    have hd142 : (nar .byte (11 : Int32)) = (11 : Int32) := (by decide)
    refine own_st (fun _ k => XS.icmpYes X136.here hx rfl (pc0 := 87) (pc' := 92) rfl (hb hby at_87) rfl (teq hd142).1 (by decide) (by decide) k) ?_
    show own_Gl _ _ _ _ _ _ _ (T136.setTop (mkF m 92 #[.val (.int p1), .val (.int p2), .val (.int (4 : Int32)), .val (.ref b121), .val (.ref r_136)] []))
    refine own_st (fun _ k => XS.aload X136.here hx rfl (hb hby at_92) rfl rfl k) ?_
    show own_Gl _ _ _ _ _ _ _ (T136.setTop (mkF m 94 #[.val (.int p1), .val (.int p2), .val (.int (4 : Int32)), .val (.ref b121), .val (.ref r_136)] [(.ref r_136)]))
    refine own_st (fun _ k => XS.aloadN X136.here hx rfl (hb hby at_94) rfl rfl k) ?_
    show own_Gl _ _ _ _ _ _ _ (T136.setTop (mkF m 95 #[.val (.int p1), .val (.int p2), .val (.int (4 : Int32)), .val (.ref b121), .val (.ref r_136)] [(.ref b121), (.ref r_136)]))
    refine own_st (fun _ k => XS.iloadN X136.here hx rfl (hb hby at_95) rfl k) ?_
    show own_Gl _ _ _ _ _ _ _ (T136.setTop (mkF m 96 #[.val (.int p1), .val (.int p2), .val (.int (4 : Int32)), .val (.ref b121), .val (.ref r_136)] [(.int (4 : Int32)), (.ref b121), (.ref r_136)]))
    refine own_st (fun _ k => XS.iconst X136.here hx rfl (hb hby at_96) k) ?_
    show own_Gl _ _ _ _ _ _ _ (T136.setTop (mkF m 97 #[.val (.int p1), .val (.int p2), .val (.int (4 : Int32)), .val (.ref b121), .val (.ref r_136)] [(.int (0 : Int32)), (.int (4 : Int32)), (.ref b121), (.ref r_136)]))
    refine own_st (fun _ k => XS.iloadN X136.here hx rfl (hb hby at_97) rfl k) ?_
    show own_Gl _ _ _ _ _ _ _ (T136.setTop (mkF m 98 #[.val (.int p1), .val (.int p2), .val (.int (4 : Int32)), .val (.ref b121), .val (.ref r_136)] [(.int p2), (.int (0 : Int32)), (.int (4 : Int32)), (.ref b121), (.ref r_136)]))
    have f144 := (Vw134.keep Kq136 nin0)
    obtain ⟨_, _, ⟨T143, L143, k143, n143⟩, -, X143, ⟨Lc143, hQ143, l143, y143, z143⟩, st143⟩ := Jvm.LawKit.callS X136 hx (y := (⟨"com/example/assayline/assayline/protocol/MllpFramePinLaw", "slot", "([B[BIII)Z"⟩ : MethodName)) hown (mvT hZ (hw _ (List.mem_of_getElem? (i := 10) rfl))) (mvT hZ (hw _ (List.mem_of_getElem? (i := 11) rfl))) (mvT hZ (hw _ (List.mem_of_getElem? (i := 12) rfl))) (mvT hZ (hw _ (List.mem_of_getElem? (i := 13) rfl))) (by decide) (backOf (W := 0) (own_slot1 l Z a0 hw [] r_136 b121 (4 : Int32) (0 : Int32) p2 kr_136 k121 (7 : Int32) (4 : Int32) [(.int (nar .byte (11 : Int32))), (.int (nar .byte (p2.toInt8.toInt32))), (.int (nar .byte (((p2.toUInt32 >>> ((8 : Int32) &&& 31).toUInt32).toInt32).toInt8.toInt32))), (.int (nar .byte (((p2.toUInt32 >>> ((16 : Int32) &&& 31).toUInt32).toInt32).toInt8.toInt32))), (.int (nar .byte (((p2.toUInt32 >>> ((24 : Int32) &&& 31).toUInt32).toInt32).toInt8.toInt32))), (.int (nar .byte (28 : Int32))), (.int (nar .byte (13 : Int32)))] [(.int (nar .byte (p2.toInt8.toInt32))), (.int (nar .byte (((p2.toUInt32 >>> ((8 : Int32) &&& 31).toUInt32).toInt32).toInt8.toInt32))), (.int (nar .byte (((p2.toUInt32 >>> ((16 : Int32) &&& 31).toUInt32).toInt32).toInt8.toInt32))), (.int (nar .byte (((p2.toUInt32 >>> ((24 : Int32) &&& 31).toUInt32).toInt32).toInt8.toInt32)))] hh136 n0 Zs138 P136_2 f144 (by decide) ⟨by decide, by decide⟩ ⟨by decide, by decide⟩ (own_w0 p2) (own_w0 p2)) hZ (hw _ (List.mem_of_getElem? (i := 13) rfl)) (hw _ (List.mem_of_getElem? (i := 12) rfl)) (by decide) (by decide)) (g := (mkF m 98 #[.val (.int p1), .val (.int p2), .val (.int (4 : Int32)), .val (.ref b121), .val (.ref r_136)] [(.int p2), (.int (0 : Int32)), (.int (4 : Int32)), (.ref b121), (.ref r_136)])) rfl (by rw [hml]; rfl) (argsL := [(.ref r_136), (.ref b121), (.int (4 : Int32)), (.int (0 : Int32)), (.int p2)]) (rest := []) (lenOf own_pd585243724 rfl) rfl (by show 2 * 0 + _ ≤ _; exact Nat.le_of_eq rfl) (hb hby at_98) (fun _ _ => ⟨rfl, eh0136, (by decide : 2 + 0 ≤ room_1.cells), (by decide : 11 + 0 ≤ room_1.slots)⟩)
    dsimp only [Pt.U, Pt.locs, Pt.cells, Pt.slots] at X143 l143 y143 z143 st143 hQ143
    subst l143 y143 z143
    obtain ⟨hh143, eh0143⟩ : ∃ z, T143.heap = z := ⟨_, rfl⟩
    rw [eh0143] at hQ143
    obtain ⟨rfl, Nq143, eh143⟩ := hQ143
    have N143 := Fr.app N136 Nq143
    refine own_st st143 ?_
    have e143 : T143.heap = hh136 := eh0143.trans eh143
    show own_Gl _ _ _ _ _ _ _ (T143.setTop (mkF m 101 #[.val (.int p1), .val (.int p2), .val (.int (4 : Int32)), .val (.ref b121), .val (.ref r_136)] [(.int (1 : Int32))]))
    have hd145 : ¬ ((1 : Int32) = (0 : Int32)) := (by decide)
    refine own_st (fun _ k => XS.ifYes X143.here hx rfl (pc0 := 101) (pc' := 106) rfl (hb hby at_101) rfl ((if0 _ _).trans (feq hd145).2) (by decide) (by decide) k) ?_
    show own_Gl _ _ _ _ _ _ _ (T143.setTop (mkF m 106 #[.val (.int p1), .val (.int p2), .val (.int (4 : Int32)), .val (.ref b121), .val (.ref r_136)] []))
    refine own_st (fun _ k => XS.aload X143.here hx rfl (hb hby at_106) rfl rfl k) ?_
    show own_Gl _ _ _ _ _ _ _ (T143.setTop (mkF m 108 #[.val (.int p1), .val (.int p2), .val (.int (4 : Int32)), .val (.ref b121), .val (.ref r_136)] [(.ref r_136)]))
    refine own_st (fun _ k => XS.aloadN X143.here hx rfl (hb hby at_108) rfl rfl k) ?_
    show own_Gl _ _ _ _ _ _ _ (T143.setTop (mkF m 109 #[.val (.int p1), .val (.int p2), .val (.int (4 : Int32)), .val (.ref b121), .val (.ref r_136)] [(.ref b121), (.ref r_136)]))
    refine own_st (fun _ k => XS.iloadN X143.here hx rfl (hb hby at_109) rfl k) ?_
    show own_Gl _ _ _ _ _ _ _ (T143.setTop (mkF m 110 #[.val (.int p1), .val (.int p2), .val (.int (4 : Int32)), .val (.ref b121), .val (.ref r_136)] [(.int (4 : Int32)), (.ref b121), (.ref r_136)]))
    refine own_st (fun _ k => XS.iconst X143.here hx rfl (hb hby at_110) k) ?_
    show own_Gl _ _ _ _ _ _ _ (T143.setTop (mkF m 111 #[.val (.int p1), .val (.int p2), .val (.int (4 : Int32)), .val (.ref b121), .val (.ref r_136)] [(.int (1 : Int32)), (.int (4 : Int32)), (.ref b121), (.ref r_136)]))
    refine own_st (fun _ k => XS.iloadN X143.here hx rfl (hb hby at_111) rfl k) ?_
    show own_Gl _ _ _ _ _ _ _ (T143.setTop (mkF m 112 #[.val (.int p1), .val (.int p2), .val (.int (4 : Int32)), .val (.ref b121), .val (.ref r_136)] [(.int p2), (.int (1 : Int32)), (.int (4 : Int32)), (.ref b121), (.ref r_136)]))
    obtain ⟨_, _, ⟨T146, L146, k146, n146⟩, -, X146, ⟨Lc146, hQ146, l146, y146, z146⟩, st146⟩ := Jvm.LawKit.callS X143 hx (y := (⟨"com/example/assayline/assayline/protocol/MllpFramePinLaw", "slot", "([B[BIII)Z"⟩ : MethodName)) hown (mvT hZ (hw _ (List.mem_of_getElem? (i := 10) rfl))) (mvT hZ (hw _ (List.mem_of_getElem? (i := 11) rfl))) (mvT hZ (hw _ (List.mem_of_getElem? (i := 12) rfl))) (mvT hZ (hw _ (List.mem_of_getElem? (i := 13) rfl))) (by decide) (backOf (W := 0) (own_slot1 l Z a0 hw [] r_136 b121 (4 : Int32) (1 : Int32) p2 kr_136 k121 (7 : Int32) (4 : Int32) [(.int (nar .byte (11 : Int32))), (.int (nar .byte (p2.toInt8.toInt32))), (.int (nar .byte (((p2.toUInt32 >>> ((8 : Int32) &&& 31).toUInt32).toInt32).toInt8.toInt32))), (.int (nar .byte (((p2.toUInt32 >>> ((16 : Int32) &&& 31).toUInt32).toInt32).toInt8.toInt32))), (.int (nar .byte (((p2.toUInt32 >>> ((24 : Int32) &&& 31).toUInt32).toInt32).toInt8.toInt32))), (.int (nar .byte (28 : Int32))), (.int (nar .byte (13 : Int32)))] [(.int (nar .byte (p2.toInt8.toInt32))), (.int (nar .byte (((p2.toUInt32 >>> ((8 : Int32) &&& 31).toUInt32).toInt32).toInt8.toInt32))), (.int (nar .byte (((p2.toUInt32 >>> ((16 : Int32) &&& 31).toUInt32).toInt32).toInt8.toInt32))), (.int (nar .byte (((p2.toUInt32 >>> ((24 : Int32) &&& 31).toUInt32).toInt32).toInt8.toInt32)))] hh136 n0 Zs138 P136_2 f144 (by decide) ⟨by decide, by decide⟩ ⟨by decide, by decide⟩ (own_w1 p2) (own_w1 p2)) hZ (hw _ (List.mem_of_getElem? (i := 13) rfl)) (hw _ (List.mem_of_getElem? (i := 12) rfl)) (by decide) (by decide)) (g := (mkF m 112 #[.val (.int p1), .val (.int p2), .val (.int (4 : Int32)), .val (.ref b121), .val (.ref r_136)] [(.int p2), (.int (1 : Int32)), (.int (4 : Int32)), (.ref b121), (.ref r_136)])) rfl (by rw [hml]; rfl) (argsL := [(.ref r_136), (.ref b121), (.int (4 : Int32)), (.int (1 : Int32)), (.int p2)]) (rest := []) (lenOf own_pd585243724 rfl) rfl (by show 2 * 0 + _ ≤ _; exact Nat.le_of_eq rfl) (hb hby at_112) (fun _ _ => ⟨rfl, e143, (by decide : 2 + 0 ≤ room_1.cells), (by decide : 11 + 0 ≤ room_1.slots)⟩)
    dsimp only [Pt.U, Pt.locs, Pt.cells, Pt.slots] at X146 l146 y146 z146 st146 hQ146
    subst l146 y146 z146
    obtain ⟨hh146, eh0146⟩ : ∃ z, T146.heap = z := ⟨_, rfl⟩
    rw [eh0146] at hQ146
    obtain ⟨rfl, Nq146, eh146⟩ := hQ146
    have N146 := Fr.app N143 Nq146
    refine own_st st146 ?_
    have e146 : T146.heap = hh136 := eh0146.trans eh146
    show own_Gl _ _ _ _ _ _ _ (T146.setTop (mkF m 115 #[.val (.int p1), .val (.int p2), .val (.int (4 : Int32)), .val (.ref b121), .val (.ref r_136)] [(.int (1 : Int32))]))
    have hd147 : ¬ ((1 : Int32) = (0 : Int32)) := (by decide)
    refine own_st (fun _ k => XS.ifYes X146.here hx rfl (pc0 := 115) (pc' := 120) rfl (hb hby at_115) rfl ((if0 _ _).trans (feq hd147).2) (by decide) (by decide) k) ?_
    show own_Gl _ _ _ _ _ _ _ (T146.setTop (mkF m 120 #[.val (.int p1), .val (.int p2), .val (.int (4 : Int32)), .val (.ref b121), .val (.ref r_136)] []))
    refine own_st (fun _ k => XS.aload X146.here hx rfl (hb hby at_120) rfl rfl k) ?_
    show own_Gl _ _ _ _ _ _ _ (T146.setTop (mkF m 122 #[.val (.int p1), .val (.int p2), .val (.int (4 : Int32)), .val (.ref b121), .val (.ref r_136)] [(.ref r_136)]))
    refine own_st (fun _ k => XS.aloadN X146.here hx rfl (hb hby at_122) rfl rfl k) ?_
    show own_Gl _ _ _ _ _ _ _ (T146.setTop (mkF m 123 #[.val (.int p1), .val (.int p2), .val (.int (4 : Int32)), .val (.ref b121), .val (.ref r_136)] [(.ref b121), (.ref r_136)]))
    refine own_st (fun _ k => XS.iloadN X146.here hx rfl (hb hby at_123) rfl k) ?_
    show own_Gl _ _ _ _ _ _ _ (T146.setTop (mkF m 124 #[.val (.int p1), .val (.int p2), .val (.int (4 : Int32)), .val (.ref b121), .val (.ref r_136)] [(.int (4 : Int32)), (.ref b121), (.ref r_136)]))
    refine own_st (fun _ k => XS.iconst X146.here hx rfl (hb hby at_124) k) ?_
    show own_Gl _ _ _ _ _ _ _ (T146.setTop (mkF m 125 #[.val (.int p1), .val (.int p2), .val (.int (4 : Int32)), .val (.ref b121), .val (.ref r_136)] [(.int (2 : Int32)), (.int (4 : Int32)), (.ref b121), (.ref r_136)]))
    refine own_st (fun _ k => XS.iloadN X146.here hx rfl (hb hby at_125) rfl k) ?_
    show own_Gl _ _ _ _ _ _ _ (T146.setTop (mkF m 126 #[.val (.int p1), .val (.int p2), .val (.int (4 : Int32)), .val (.ref b121), .val (.ref r_136)] [(.int p2), (.int (2 : Int32)), (.int (4 : Int32)), (.ref b121), (.ref r_136)]))
    obtain ⟨_, _, ⟨T148, L148, k148, n148⟩, -, X148, ⟨Lc148, hQ148, l148, y148, z148⟩, st148⟩ := Jvm.LawKit.callS X146 hx (y := (⟨"com/example/assayline/assayline/protocol/MllpFramePinLaw", "slot", "([B[BIII)Z"⟩ : MethodName)) hown (mvT hZ (hw _ (List.mem_of_getElem? (i := 10) rfl))) (mvT hZ (hw _ (List.mem_of_getElem? (i := 11) rfl))) (mvT hZ (hw _ (List.mem_of_getElem? (i := 12) rfl))) (mvT hZ (hw _ (List.mem_of_getElem? (i := 13) rfl))) (by decide) (backOf (W := 0) (own_slot1 l Z a0 hw [] r_136 b121 (4 : Int32) (2 : Int32) p2 kr_136 k121 (7 : Int32) (4 : Int32) [(.int (nar .byte (11 : Int32))), (.int (nar .byte (p2.toInt8.toInt32))), (.int (nar .byte (((p2.toUInt32 >>> ((8 : Int32) &&& 31).toUInt32).toInt32).toInt8.toInt32))), (.int (nar .byte (((p2.toUInt32 >>> ((16 : Int32) &&& 31).toUInt32).toInt32).toInt8.toInt32))), (.int (nar .byte (((p2.toUInt32 >>> ((24 : Int32) &&& 31).toUInt32).toInt32).toInt8.toInt32))), (.int (nar .byte (28 : Int32))), (.int (nar .byte (13 : Int32)))] [(.int (nar .byte (p2.toInt8.toInt32))), (.int (nar .byte (((p2.toUInt32 >>> ((8 : Int32) &&& 31).toUInt32).toInt32).toInt8.toInt32))), (.int (nar .byte (((p2.toUInt32 >>> ((16 : Int32) &&& 31).toUInt32).toInt32).toInt8.toInt32))), (.int (nar .byte (((p2.toUInt32 >>> ((24 : Int32) &&& 31).toUInt32).toInt32).toInt8.toInt32)))] hh136 n0 Zs138 P136_2 f144 (by decide) ⟨by decide, by decide⟩ ⟨by decide, by decide⟩ (own_w2 p2) (own_w2 p2)) hZ (hw _ (List.mem_of_getElem? (i := 13) rfl)) (hw _ (List.mem_of_getElem? (i := 12) rfl)) (by decide) (by decide)) (g := (mkF m 126 #[.val (.int p1), .val (.int p2), .val (.int (4 : Int32)), .val (.ref b121), .val (.ref r_136)] [(.int p2), (.int (2 : Int32)), (.int (4 : Int32)), (.ref b121), (.ref r_136)])) rfl (by rw [hml]; rfl) (argsL := [(.ref r_136), (.ref b121), (.int (4 : Int32)), (.int (2 : Int32)), (.int p2)]) (rest := []) (lenOf own_pd585243724 rfl) rfl (by show 2 * 0 + _ ≤ _; exact Nat.le_of_eq rfl) (hb hby at_126) (fun _ _ => ⟨rfl, e146, (by decide : 2 + 0 ≤ room_1.cells), (by decide : 11 + 0 ≤ room_1.slots)⟩)
    dsimp only [Pt.U, Pt.locs, Pt.cells, Pt.slots] at X148 l148 y148 z148 st148 hQ148
    subst l148 y148 z148
    obtain ⟨hh148, eh0148⟩ : ∃ z, T148.heap = z := ⟨_, rfl⟩
    rw [eh0148] at hQ148
    obtain ⟨rfl, Nq148, eh148⟩ := hQ148
    have N148 := Fr.app N146 Nq148
    refine own_st st148 ?_
    have e148 : T148.heap = hh136 := eh0148.trans eh148
    show own_Gl _ _ _ _ _ _ _ (T148.setTop (mkF m 129 #[.val (.int p1), .val (.int p2), .val (.int (4 : Int32)), .val (.ref b121), .val (.ref r_136)] [(.int (1 : Int32))]))
    have hd149 : ¬ ((1 : Int32) = (0 : Int32)) := (by decide)
    refine own_st (fun _ k => XS.ifYes X148.here hx rfl (pc0 := 129) (pc' := 134) rfl (hb hby at_129) rfl ((if0 _ _).trans (feq hd149).2) (by decide) (by decide) k) ?_
    show own_Gl _ _ _ _ _ _ _ (T148.setTop (mkF m 134 #[.val (.int p1), .val (.int p2), .val (.int (4 : Int32)), .val (.ref b121), .val (.ref r_136)] []))
    refine own_st (fun _ k => XS.aload X148.here hx rfl (hb hby at_134) rfl rfl k) ?_
    show own_Gl _ _ _ _ _ _ _ (T148.setTop (mkF m 136 #[.val (.int p1), .val (.int p2), .val (.int (4 : Int32)), .val (.ref b121), .val (.ref r_136)] [(.ref r_136)]))
    refine own_st (fun _ k => XS.aloadN X148.here hx rfl (hb hby at_136) rfl rfl k) ?_
    show own_Gl _ _ _ _ _ _ _ (T148.setTop (mkF m 137 #[.val (.int p1), .val (.int p2), .val (.int (4 : Int32)), .val (.ref b121), .val (.ref r_136)] [(.ref b121), (.ref r_136)]))
    refine own_st (fun _ k => XS.iloadN X148.here hx rfl (hb hby at_137) rfl k) ?_
    show own_Gl _ _ _ _ _ _ _ (T148.setTop (mkF m 138 #[.val (.int p1), .val (.int p2), .val (.int (4 : Int32)), .val (.ref b121), .val (.ref r_136)] [(.int (4 : Int32)), (.ref b121), (.ref r_136)]))
    refine own_st (fun _ k => XS.iconst X148.here hx rfl (hb hby at_138) k) ?_
    show own_Gl _ _ _ _ _ _ _ (T148.setTop (mkF m 139 #[.val (.int p1), .val (.int p2), .val (.int (4 : Int32)), .val (.ref b121), .val (.ref r_136)] [(.int (3 : Int32)), (.int (4 : Int32)), (.ref b121), (.ref r_136)]))
    refine own_st (fun _ k => XS.iloadN X148.here hx rfl (hb hby at_139) rfl k) ?_
    show own_Gl _ _ _ _ _ _ _ (T148.setTop (mkF m 140 #[.val (.int p1), .val (.int p2), .val (.int (4 : Int32)), .val (.ref b121), .val (.ref r_136)] [(.int p2), (.int (3 : Int32)), (.int (4 : Int32)), (.ref b121), (.ref r_136)]))
    obtain ⟨_, _, ⟨T150, L150, k150, n150⟩, -, X150, ⟨Lc150, hQ150, l150, y150, z150⟩, st150⟩ := Jvm.LawKit.callS X148 hx (y := (⟨"com/example/assayline/assayline/protocol/MllpFramePinLaw", "slot", "([B[BIII)Z"⟩ : MethodName)) hown (mvT hZ (hw _ (List.mem_of_getElem? (i := 10) rfl))) (mvT hZ (hw _ (List.mem_of_getElem? (i := 11) rfl))) (mvT hZ (hw _ (List.mem_of_getElem? (i := 12) rfl))) (mvT hZ (hw _ (List.mem_of_getElem? (i := 13) rfl))) (by decide) (backOf (W := 0) (own_slot1 l Z a0 hw [] r_136 b121 (4 : Int32) (3 : Int32) p2 kr_136 k121 (7 : Int32) (4 : Int32) [(.int (nar .byte (11 : Int32))), (.int (nar .byte (p2.toInt8.toInt32))), (.int (nar .byte (((p2.toUInt32 >>> ((8 : Int32) &&& 31).toUInt32).toInt32).toInt8.toInt32))), (.int (nar .byte (((p2.toUInt32 >>> ((16 : Int32) &&& 31).toUInt32).toInt32).toInt8.toInt32))), (.int (nar .byte (((p2.toUInt32 >>> ((24 : Int32) &&& 31).toUInt32).toInt32).toInt8.toInt32))), (.int (nar .byte (28 : Int32))), (.int (nar .byte (13 : Int32)))] [(.int (nar .byte (p2.toInt8.toInt32))), (.int (nar .byte (((p2.toUInt32 >>> ((8 : Int32) &&& 31).toUInt32).toInt32).toInt8.toInt32))), (.int (nar .byte (((p2.toUInt32 >>> ((16 : Int32) &&& 31).toUInt32).toInt32).toInt8.toInt32))), (.int (nar .byte (((p2.toUInt32 >>> ((24 : Int32) &&& 31).toUInt32).toInt32).toInt8.toInt32)))] hh136 n0 Zs138 P136_2 f144 (by decide) ⟨by decide, by decide⟩ ⟨by decide, by decide⟩ (own_w3 p2) (own_w3 p2)) hZ (hw _ (List.mem_of_getElem? (i := 13) rfl)) (hw _ (List.mem_of_getElem? (i := 12) rfl)) (by decide) (by decide)) (g := (mkF m 140 #[.val (.int p1), .val (.int p2), .val (.int (4 : Int32)), .val (.ref b121), .val (.ref r_136)] [(.int p2), (.int (3 : Int32)), (.int (4 : Int32)), (.ref b121), (.ref r_136)])) rfl (by rw [hml]; rfl) (argsL := [(.ref r_136), (.ref b121), (.int (4 : Int32)), (.int (3 : Int32)), (.int p2)]) (rest := []) (lenOf own_pd585243724 rfl) rfl (by show 2 * 0 + _ ≤ _; exact Nat.le_of_eq rfl) (hb hby at_140) (fun _ _ => ⟨rfl, e148, (by decide : 2 + 0 ≤ room_1.cells), (by decide : 11 + 0 ≤ room_1.slots)⟩)
    dsimp only [Pt.U, Pt.locs, Pt.cells, Pt.slots] at X150 l150 y150 z150 st150 hQ150
    subst l150 y150 z150
    obtain ⟨hh150, eh0150⟩ : ∃ z, T150.heap = z := ⟨_, rfl⟩
    rw [eh0150] at hQ150
    obtain ⟨rfl, Nq150, eh150⟩ := hQ150
    have N150 := Fr.app N148 Nq150
    refine own_st st150 ?_
    have e150 : T150.heap = hh136 := eh0150.trans eh150
    show own_Gl _ _ _ _ _ _ _ (T150.setTop (mkF m 143 #[.val (.int p1), .val (.int p2), .val (.int (4 : Int32)), .val (.ref b121), .val (.ref r_136)] [(.int (1 : Int32))]))
    have hd151 : ¬ ((1 : Int32) = (0 : Int32)) := (by decide)
    refine own_st (fun _ k => XS.ifYes X150.here hx rfl (pc0 := 143) (pc' := 148) rfl (hb hby at_143) rfl ((if0 _ _).trans (feq hd151).2) (by decide) (by decide) k) ?_
    show own_Gl _ _ _ _ _ _ _ (T150.setTop (mkF m 148 #[.val (.int p1), .val (.int p2), .val (.int (4 : Int32)), .val (.ref b121), .val (.ref r_136)] []))
    refine own_st (fun _ k => XS.aload X150.here hx rfl (hb hby at_148) rfl rfl k) ?_
    show own_Gl _ _ _ _ _ _ _ (T150.setTop (mkF m 150 #[.val (.int p1), .val (.int p2), .val (.int (4 : Int32)), .val (.ref b121), .val (.ref r_136)] [(.ref r_136)]))
    refine own_st (fun _ k => XS.iloadN X150.here hx rfl (hb hby at_150) rfl k) ?_
    show own_Gl _ _ _ _ _ _ _ (T150.setTop (mkF m 151 #[.val (.int p1), .val (.int p2), .val (.int (4 : Int32)), .val (.ref b121), .val (.ref r_136)] [(.int (4 : Int32)), (.ref r_136)]))
    refine own_st (fun _ k => XS.iconst X150.here hx rfl (hb hby at_151) k) ?_
    show own_Gl _ _ _ _ _ _ _ (T150.setTop (mkF m 152 #[.val (.int p1), .val (.int p2), .val (.int (4 : Int32)), .val (.ref b121), .val (.ref r_136)] [(.int (1 : Int32)), (.int (4 : Int32)), (.ref r_136)]))
    refine own_st (fun _ k => XS.iadd X150.here hx rfl (hb hby at_152) rfl k) ?_
    show own_Gl _ _ _ _ _ _ _ (T150.setTop (mkF m 153 #[.val (.int p1), .val (.int p2), .val (.int (4 : Int32)), .val (.ref b121), .val (.ref r_136)] [(.int (5 : Int32)), (.ref r_136)]))
    obtain ⟨cl152, Ar152, qq152, Ss152, Nn152, Hh152, Gg152⟩ := id P136_2
    have hin152 : ¬ ((5 : Int32) < 0 ∨ cl152.slots.size ≤ ((5 : Int32)).toNatClampNeg) := inb_of Ss152 ⟨by decide, by decide⟩
    have hat152 : cl152.slots[((5 : Int32)).toNatClampNeg]? = some (.int (nar .byte (28 : Int32))) := Hh152.at hin152 (rfl)
    refine own_st (X150.baloadBytes hx (j := (5 : Int32)) (v := (.int (nar .byte (28 : Int32)))) (by rw [e150]; exact Ar152.1) (State.isArrayOf_alike hZ.alike Ar152.2.1) Ar152.2.2 hin152 hat152 (g := (mkF m 153 #[.val (.int p1), .val (.int p2), .val (.int (4 : Int32)), .val (.ref b121), .val (.ref r_136)] [(.int (5 : Int32)), (.ref r_136)])) rfl rfl (hb hby at_153)) ?_
    show own_Gl _ _ _ _ _ _ _ (T150.setTop (mkF m 154 #[.val (.int p1), .val (.int p2), .val (.int (4 : Int32)), .val (.ref b121), .val (.ref r_136)] [(.int (nar .byte (28 : Int32)))]))
    refine own_st (fun _ k => XS.bipush X150.here hx rfl (hb hby at_154) k) ?_
    show own_Gl _ _ _ _ _ _ _ (T150.setTop (mkF m 156 #[.val (.int p1), .val (.int p2), .val (.int (4 : Int32)), .val (.ref b121), .val (.ref r_136)] [(.int (28 : Int32)), (.int (nar .byte (28 : Int32)))]))
    have hd153 : (nar .byte (28 : Int32)) = (28 : Int32) := (by decide)
    refine own_st (fun _ k => XS.icmpYes X150.here hx rfl (pc0 := 156) (pc' := 161) rfl (hb hby at_156) rfl (teq hd153).1 (by decide) (by decide) k) ?_
    show own_Gl _ _ _ _ _ _ _ (T150.setTop (mkF m 161 #[.val (.int p1), .val (.int p2), .val (.int (4 : Int32)), .val (.ref b121), .val (.ref r_136)] []))
    refine own_st (fun _ k => XS.aload X150.here hx rfl (hb hby at_161) rfl rfl k) ?_
    show own_Gl _ _ _ _ _ _ _ (T150.setTop (mkF m 163 #[.val (.int p1), .val (.int p2), .val (.int (4 : Int32)), .val (.ref b121), .val (.ref r_136)] [(.ref r_136)]))
    refine own_st (fun _ k => XS.iloadN X150.here hx rfl (hb hby at_163) rfl k) ?_
    show own_Gl _ _ _ _ _ _ _ (T150.setTop (mkF m 164 #[.val (.int p1), .val (.int p2), .val (.int (4 : Int32)), .val (.ref b121), .val (.ref r_136)] [(.int (4 : Int32)), (.ref r_136)]))
    refine own_st (fun _ k => XS.iconst X150.here hx rfl (hb hby at_164) k) ?_
    show own_Gl _ _ _ _ _ _ _ (T150.setTop (mkF m 165 #[.val (.int p1), .val (.int p2), .val (.int (4 : Int32)), .val (.ref b121), .val (.ref r_136)] [(.int (2 : Int32)), (.int (4 : Int32)), (.ref r_136)]))
    refine own_st (fun _ k => XS.iadd X150.here hx rfl (hb hby at_165) rfl k) ?_
    show own_Gl _ _ _ _ _ _ _ (T150.setTop (mkF m 166 #[.val (.int p1), .val (.int p2), .val (.int (4 : Int32)), .val (.ref b121), .val (.ref r_136)] [(.int (6 : Int32)), (.ref r_136)]))
    obtain ⟨cl154, Ar154, qq154, Ss154, Nn154, Hh154, Gg154⟩ := id P136_2
    have hin154 : ¬ ((6 : Int32) < 0 ∨ cl154.slots.size ≤ ((6 : Int32)).toNatClampNeg) := inb_of Ss154 ⟨by decide, by decide⟩
    have hat154 : cl154.slots[((6 : Int32)).toNatClampNeg]? = some (.int (nar .byte (13 : Int32))) := Hh154.at hin154 (rfl)
    refine own_st (X150.baloadBytes hx (j := (6 : Int32)) (v := (.int (nar .byte (13 : Int32)))) (by rw [e150]; exact Ar154.1) (State.isArrayOf_alike hZ.alike Ar154.2.1) Ar154.2.2 hin154 hat154 (g := (mkF m 166 #[.val (.int p1), .val (.int p2), .val (.int (4 : Int32)), .val (.ref b121), .val (.ref r_136)] [(.int (6 : Int32)), (.ref r_136)])) rfl rfl (hb hby at_166)) ?_
    show own_Gl _ _ _ _ _ _ _ (T150.setTop (mkF m 167 #[.val (.int p1), .val (.int p2), .val (.int (4 : Int32)), .val (.ref b121), .val (.ref r_136)] [(.int (nar .byte (13 : Int32)))]))
    refine own_st (fun _ k => XS.bipush X150.here hx rfl (hb hby at_167) k) ?_
    show own_Gl _ _ _ _ _ _ _ (T150.setTop (mkF m 169 #[.val (.int p1), .val (.int p2), .val (.int (4 : Int32)), .val (.ref b121), .val (.ref r_136)] [(.int (13 : Int32)), (.int (nar .byte (13 : Int32)))]))
    have hd155 : (nar .byte (13 : Int32)) = (13 : Int32) := (by decide)
    refine own_st (fun _ k => XS.icmpYes X150.here hx rfl (pc0 := 169) (pc' := 174) rfl (hb hby at_169) rfl (teq hd155).1 (by decide) (by decide) k) ?_
    show own_Gl _ _ _ _ _ _ _ (T150.setTop (mkF m 174 #[.val (.int p1), .val (.int p2), .val (.int (4 : Int32)), .val (.ref b121), .val (.ref r_136)] []))
    refine own_st (fun _ k => XS.iconst X150.here hx rfl (hb hby at_174) k) ?_
    show own_Gl _ _ _ _ _ _ _ (T150.setTop (mkF m 175 #[.val (.int p1), .val (.int p2), .val (.int (4 : Int32)), .val (.ref b121), .val (.ref r_136)] [(.int (1 : Int32))]))
    exact own_retN X150 hx hlk (t := .boolean) hret (by simp) (hb hby at_175) e150 ⟨rfl, N150⟩ (by decide) (by decide)
set_option maxRecDepth 65536 in
set_option maxHeartbeats 40000000 in
theorem comes_1 {Post : Tables → Env → Array Value → State → Outcome → State → Prop} (hpost : ∀ tb e args s v u, (limb_1_1.after args s (.returned v) u = true ∧ limb_1_2.after args s (.returned v) u = true ∧ True) → FrameEnd s (.returned v) u (Jvm.fieldLocs frame_1_writes args s ++ Jvm.arrayLocs frame_1_arrays args s ++ Jvm.staticLocs frame_1_statics s) 16 128 → Post tb e args s (.returned v) u) :
    ArmFor flags0 classFile x code maxLocals ret World_1 tables_1 room_1 Calls_1 rest_1 Pre_1 Post := by
  intro l hfl _ _ p e ha hc hk s m args below hf hA hF happ hP
  obtain ⟨hcalls, hrest, hpre⟩ := hP
  obtain ⟨-, -, -, hnamed, -, -, -, hat⟩ := (Spec.applies_iff hf).mp happ
  obtain ⟨hg, hn⟩ := and_e (Cond.before_iff.mp (show (Jvm.Cond.and given_1 narrow_1).before args s = true from hpre))
  obtain ⟨gg1, gg2⟩ := and_e hg
  obtain ⟨gg3, gg4⟩ := and_e gg2
  obtain ⟨w0, w1, rfl⟩ : ∃ w0 w1 : Value, args = #[w0, w1] := by
    have hs : args.size = 2 := by simpa [Cond.value, given_1] using gg1
    obtain ⟨L⟩ := args
    match L, hs with
    | [w0, w1], _ => exact ⟨w0, w1, rfl⟩
  have hw := fun d (hd : d ∈ tables_1) => atoms_spec (ws := Jvm.Cond.code x code maxLocals ret :: tables_1) hat d (List.mem_cons_of_mem _ hd)
  have hfit : Fit s := fun {y c} hc i hi => by
    obtain ⟨ha, rfl⟩ := Array.getElem?_eq_some_iff.mp hc
    have q := List.all_eq_true.mp ((Array.all_eq_true_iff_forall_mem.mp hF) _ (Array.getElem_mem ha)) i (List.mem_range.mpr hi)
    simpa [Array.getElem?_eq_getElem hi] using q
  obtain ⟨i0, ei0⟩ := is_v gg3
  obtain rfl : w0 = (.int i0) := Option.some.inj ei0
  obtain ⟨i1, ei1⟩ := is_v gg4
  obtain rfl : w1 = (.int i1) := Option.some.inj ei1
  obtain ⟨n, o, h1, h2, h3, _, L, rfl, ⟨rfl, N⟩, hq⟩ := own_law l s _ hw tables_1 i0 i1  s.heap s.heap.size (Nat.le_refl _)  p e ha hc hk s m _ below hf ((Spec.applies_iff_loose hf).mp happ).1 ⟨rfl, State.Warmed39.refl s, rfl⟩ trivial
  refine ⟨n, _, h1, h2, h3, hpost _ _ _ _ _ _ ⟨Cond.after_iff.mpr rfl, Cond.after_iff.mpr (eq_i res_at (Term.int_eval (1)) rfl), trivial⟩ ⟨hq.1, hq.2.1, (hq.2.2.sift fun y hy => Or.inr (N y hy)).mono (by decide) (by decide)⟩⟩
theorem main_1_1 : Claimed_1_1 := comes_1 fun _ _ _ _ _ _ h hF => ⟨h.1, hF⟩
theorem main_1_2 : Claimed_1_2 := comes_1 fun _ _ _ _ _ _ h hF => ⟨h.2.1, hF⟩

end Jvm.Pilot.@@N@@
namespace Jvm.Pilot.@@N@@
open Jvm Jvm.ClassFile Sem Op Lib Jvm.Free Jvm.Stand Jvm.Pilot.@@N@@.Jvm.D
/-! MADE BY PROGRAM (witnessworld.py) out of the Statement's table words and the real class files: 10 classes; the members and pool entries that the words name. The judged class is class 1, her method 1. -/
namespace start1
open Jvm.ClassFile
def u (s : String) : CpInfo := .utf8 (stringToUtf16 s)
/-- a pool by its gaps: so many unusable entries, then the entry; so many at the end -/
def gap : Nat → List CpInfo → List CpInfo
  | 0, r => r
  | n + 1, r => .unusable :: gap n r
def poolList (es : List (Nat × CpInfo)) (last : Nat) : List CpInfo := es.foldr (fun e r => gap e.1 (e.2 :: r)) (gap last [])
def pool (es : List (Nat × CpInfo)) (last : Nat) : Array CpInfo := ⟨poolList es last⟩
def fileOf (pool : Array CpInfo) (this : Nat) (attrs : Array Attribute := #[]) (ms : Array MethodInfo := #[]) (fl : Nat := 33) (sup : Nat := 0) (ifs : Array Nat := #[]) (fds : Array FieldInfo := #[]) : ClassFile where
  minorVersion := 0
  majorVersion := 65
  constantPool := pool
  accessFlags := fl
  thisClass := this
  superClass := sup
  interfaces := ifs
  fields := fds
  methods := ms
  attributes := attrs
def plain (name : String) (sup : Option ClassId) : Class where
  name := name
  kind := .ordinary
  loader := none
  accessFlags := 33
  super := sup
  interfaces := #[]
  cf := none
  fields := #[]
  methods := #[]
  instanceTypes := #[]
  staticTypes := #[]
  resolved := #[]
  callSites := []
  init := .initialized
  statics := none
  mirror := none

def pool0 : Array CpInfo := pool [(5, u "<init>"), (0, u "()V"), (1, .class_ 10), (1, u "java/lang/Object")] 113

def k0m0 : Method := { name := "<init>", desc := "()V", sig := { parameters := [], returnType := none }, accessFlags := 1, code := none }
/-- java/lang/Object -/
def k0 : Class := { plain "java/lang/Object" none with
  accessFlags := 33
  interfaces := #[]
  cf := some (fileOf pool0 8 #[] #[{ accessFlags := 1, nameIndex := 5, descriptorIndex := 6, attributes := #[] }] 33 0 #[] #[])
  fields := #[]
  methods := #[k0m0]
  instanceTypes := #[]
  staticTypes := #[]
  resolved := Array.replicate 124 none
  statics := none }

def pool1 : Array CpInfo := pool [(2, .class_ 4), (1, u "java/lang/Object"), (0, u "<init>"), (0, u "()V"), (0, .integer 2147483647), (0, .methodref 9 10), (0, .class_ 11), (0, .nameAndType 12 13), (0, u "com/example/assayline/assayline/protocol/Mllp"), (0, u "frame"), (0, u "([B)[B"), (0, .methodref 15 16), (0, .class_ 17), (0, .nameAndType 18 19), (0, u "com/example/assayline/assayline/protocol/MllpFramePinLaw"), (0, u "slot"), (0, u "([B[BIII)Z"), (2, u "law"), (0, u "(II)Z")] 5

def k1m0 : Method := { name := "<init>", desc := "()V", sig := { parameters := [], returnType := none }, accessFlags := 1, code := none }
def k1c1 : Code := { maxStack := 5, maxLocals := 5, code := code, exceptionTable := #[], attributes := #[] }
def k1m1 : Method := { name := "law", desc := "(II)Z", sig := { parameters := [.int, .int], returnType := some .boolean }, accessFlags := 9, code := some k1c1 }
def k1c2 : Code := { maxStack := 3, maxLocals := 6, code := method_3_code, exceptionTable := #[], attributes := #[] }
def k1m2 : Method := { name := "slot", desc := "([B[BIII)Z", sig := { parameters := [(.array .byte), (.array .byte), .int, .int, .int], returnType := some .boolean }, accessFlags := 10, code := some k1c2 }
/-- com/example/assayline/assayline/protocol/MllpFramePinLaw -/
def k1 : Class := { plain "com/example/assayline/assayline/protocol/MllpFramePinLaw" (some 0) with
  accessFlags := 49
  interfaces := #[]
  cf := some (fileOf pool1 15 #[] #[{ accessFlags := 1, nameIndex := 5, descriptorIndex := 6, attributes := #[] }, { accessFlags := 9, nameIndex := 22, descriptorIndex := 23, attributes := #[] }, { accessFlags := 10, nameIndex := 18, descriptorIndex := 19, attributes := #[] }] 49 2 #[] #[])
  fields := #[]
  methods := #[k1m0, k1m1, k1m2]
  instanceTypes := #[]
  staticTypes := #[]
  resolved := Array.replicate 29 none
  statics := none }

def pool2 : Array CpInfo := pool [(2, .class_ 4), (1, u "java/lang/Object"), (0, u "<init>"), (0, u "()V"), (0, .class_ 8), (0, u "com/example/assayline/assayline/protocol/Mllp"), (0, .methodref 10 11), (0, .class_ 12), (0, .nameAndType 13 14), (0, u "java/lang/System"), (0, u "arraycopy"), (0, u "(Ljava/lang/Object;ILjava/lang/Object;II)V"), (0, u "START_BLOCK"), (0, u "I"), (2, u "END_BLOCK"), (1, u "CARRIAGE_RETURN"), (1, u "MAX_MESSAGE_BYTES"), (3, u "frame"), (0, u "([B)[B")] 2

def k2m0 : Method := { name := "<init>", desc := "()V", sig := { parameters := [], returnType := none }, accessFlags := 2, code := none }
def k2c1 : Code := { maxStack := 5, maxLocals := 2, code := prog_78_method_2_code, exceptionTable := #[], attributes := #[] }
def k2m1 : Method := { name := "frame", desc := "([B)[B", sig := { parameters := [(.array .byte)], returnType := some (.array .byte) }, accessFlags := 9, code := some k2c1 }
/-- com/example/assayline/assayline/protocol/Mllp -/
def k2 : Class := { plain "com/example/assayline/assayline/protocol/Mllp" (some 0) with
  accessFlags := 49
  interfaces := #[]
  cf := some (fileOf pool2 7 #[] #[{ accessFlags := 2, nameIndex := 5, descriptorIndex := 6, attributes := #[] }, { accessFlags := 9, nameIndex := 27, descriptorIndex := 28, attributes := #[] }] 49 2 #[] #[{ accessFlags := 25, nameIndex := 15, descriptorIndex := 16, attributes := #[] }, { accessFlags := 25, nameIndex := 19, descriptorIndex := 16, attributes := #[] }, { accessFlags := 25, nameIndex := 21, descriptorIndex := 16, attributes := #[] }, { accessFlags := 25, nameIndex := 23, descriptorIndex := 16, attributes := #[] }])
  fields := #[{ name := "START_BLOCK", type := .int, accessFlags := 25, slot := 0, constantValue := 0 }, { name := "END_BLOCK", type := .int, accessFlags := 25, slot := 1, constantValue := 0 }, { name := "CARRIAGE_RETURN", type := .int, accessFlags := 25, slot := 2, constantValue := 0 }, { name := "MAX_MESSAGE_BYTES", type := .int, accessFlags := 25, slot := 3, constantValue := 0 }]
  methods := #[k2m0, k2m1]
  instanceTypes := #[]
  staticTypes := #[.int, .int, .int, .int]
  resolved := Array.replicate 31 none
  statics := none }

def pool3 : Array CpInfo := pool [(2, .class_ 4), (1, u "java/lang/Object"), (0, u "<init>"), (0, u "()V"), (1, .class_ 10), (1, u "java/lang/System"), (0, u "allowSecurityManager"), (0, u "I"), (16, u "cons"), (0, u "Ljava/io/Console;"), (77, .class_ 110), (1, u "java/lang/System$CallersHolder"), (43, u "initialErrStream"), (0, u "Ljava/io/PrintStream;"), (19, u "security"), (0, u "Ljava/lang/SecurityManager;"), (31, .class_ 209), (0, u "java/lang/System$1"), (7, u "props"), (0, u "Ljava/util/Properties;"), (2, u "lineSeparator"), (0, u "Ljava/lang/String;"), (96, .class_ 321), (1, u "java/lang/System$LoggerFinder"), (5, .class_ 328), (0, u "java/lang/System$Logger"), (67, u "err"), (2, u "out"), (91, u "notSupportedJnuEncoding"), (15, u "in"), (17, u "initialIn"), (0, u "Ljava/io/InputStream;"), (35, u "bootLayer"), (0, u "Ljava/lang/ModuleLayer;"), (99, .class_ 664), (0, u "java/lang/System$2"), (9, u "NEVER"), (2, u "MAYBE"), (49, u "arraycopy"), (0, u "(Ljava/lang/Object;ILjava/lang/Object;II)V"), (72, .class_ 802), (0, u "java/lang/System$Logger$Level")] 31

def k3m0 : Method := { name := "<init>", desc := "()V", sig := { parameters := [], returnType := none }, accessFlags := 2, code := none }
def k3m1 : Method := { name := "arraycopy", desc := "(Ljava/lang/Object;ILjava/lang/Object;II)V", sig := { parameters := [(.object "java/lang/Object"), .int, (.object "java/lang/Object"), .int, .int], returnType := none }, accessFlags := 265, code := none }
/-- java/lang/System -/
def k3 : Class := { plain "java/lang/System" (some 0) with
  accessFlags := 49
  interfaces := #[]
  cf := some (fileOf pool3 8 #[.nestMembers #[319, 327, 801, 108, 663, 208]] #[{ accessFlags := 2, nameIndex := 5, descriptorIndex := 6, attributes := #[] }, { accessFlags := 265, nameIndex := 727, descriptorIndex := 728, attributes := #[] }] 49 2 #[] #[{ accessFlags := 25, nameIndex := 507, descriptorIndex := 526, attributes := #[] }, { accessFlags := 25, nameIndex := 399, descriptorIndex := 155, attributes := #[] }, { accessFlags := 25, nameIndex := 396, descriptorIndex := 155, attributes := #[] }, { accessFlags := 10, nameIndex := 525, descriptorIndex := 526, attributes := #[] }, { accessFlags := 26, nameIndex := 674, descriptorIndex := 12, attributes := #[] }, { accessFlags := 26, nameIndex := 677, descriptorIndex := 12, attributes := #[] }, { accessFlags := 10, nameIndex := 11, descriptorIndex := 12, attributes := #[] }, { accessFlags := 74, nameIndex := 175, descriptorIndex := 176, attributes := #[] }, { accessFlags := 10, nameIndex := 491, descriptorIndex := 222, attributes := #[] }, { accessFlags := 74, nameIndex := 29, descriptorIndex := 30, attributes := #[] }, { accessFlags := 74, nameIndex := 154, descriptorIndex := 155, attributes := #[] }, { accessFlags := 10, nameIndex := 217, descriptorIndex := 218, attributes := #[] }, { accessFlags := 10, nameIndex := 221, descriptorIndex := 222, attributes := #[] }, { accessFlags := 8, nameIndex := 562, descriptorIndex := 563, attributes := #[] }])
  fields := #[{ name := "in", type := (.object "java/io/InputStream"), accessFlags := 25, slot := 0, constantValue := 0 }, { name := "out", type := (.object "java/io/PrintStream"), accessFlags := 25, slot := 1, constantValue := 0 }, { name := "err", type := (.object "java/io/PrintStream"), accessFlags := 25, slot := 2, constantValue := 0 }, { name := "initialIn", type := (.object "java/io/InputStream"), accessFlags := 10, slot := 3, constantValue := 0 }, { name := "NEVER", type := .int, accessFlags := 26, slot := 4, constantValue := 0 }, { name := "MAYBE", type := .int, accessFlags := 26, slot := 5, constantValue := 0 }, { name := "allowSecurityManager", type := .int, accessFlags := 10, slot := 6, constantValue := 0 }, { name := "security", type := (.object "java/lang/SecurityManager"), accessFlags := 74, slot := 7, constantValue := 0 }, { name := "notSupportedJnuEncoding", type := (.object "java/lang/String"), accessFlags := 10, slot := 8, constantValue := 0 }, { name := "cons", type := (.object "java/io/Console"), accessFlags := 74, slot := 9, constantValue := 0 }, { name := "initialErrStream", type := (.object "java/io/PrintStream"), accessFlags := 74, slot := 10, constantValue := 0 }, { name := "props", type := (.object "java/util/Properties"), accessFlags := 10, slot := 11, constantValue := 0 }, { name := "lineSeparator", type := (.object "java/lang/String"), accessFlags := 10, slot := 12, constantValue := 0 }, { name := "bootLayer", type := (.object "java/lang/ModuleLayer"), accessFlags := 8, slot := 13, constantValue := 0 }]
  methods := #[k3m0, k3m1]
  instanceTypes := #[]
  staticTypes := #[(.object "java/io/InputStream"), (.object "java/io/PrintStream"), (.object "java/io/PrintStream"), (.object "java/io/InputStream"), .int, .int, .int, (.object "java/lang/SecurityManager"), (.object "java/lang/String"), (.object "java/io/Console"), (.object "java/io/PrintStream"), (.object "java/util/Properties"), (.object "java/lang/String"), (.object "java/lang/ModuleLayer")]
  resolved := Array.replicate 834 none
  statics := none }

def pool4 : Array CpInfo := pool [(1, u "java/lang/Cloneable"), (0, .class_ 1), (0, u "java/lang/Object"), (0, .class_ 3)] 3

/-- java/lang/Cloneable -/
def k4 : Class := { plain "java/lang/Cloneable" (some 0) with
  accessFlags := 1537
  interfaces := #[]
  cf := some (fileOf pool4 2 #[] #[] 1537 4 #[] #[])
  fields := #[]
  methods := #[]
  instanceTypes := #[]
  staticTypes := #[]
  resolved := Array.replicate 8 none
  statics := none }

def pool5 : Array CpInfo := pool [(1, u "java/io/Serializable"), (0, .class_ 1), (0, u "java/lang/Object"), (0, .class_ 3)] 3

/-- java/io/Serializable -/
def k5 : Class := { plain "java/io/Serializable" (some 0) with
  accessFlags := 1537
  interfaces := #[]
  cf := some (fileOf pool5 2 #[] #[] 1537 4 #[] #[])
  fields := #[]
  methods := #[]
  instanceTypes := #[]
  staticTypes := #[]
  resolved := Array.replicate 8 none
  statics := none }

/-- the primitive byte -/
def k6 : Class := { plain "byte" none with kind := .primitive 'B', accessFlags := 0x411 }
/-- [B -/
def k7 : Class := { plain "[B" (some 0) with kind := .array 6 .byte, interfaces := #[4, 5], accessFlags := 1041 }

/-- the primitive int -/
def k8 : Class := { plain "int" none with kind := .primitive 'I', accessFlags := 0x411 }
/-- [I -/
def k9 : Class := { plain "[I" (some 0) with kind := .array 8 .int, interfaces := #[4, 5], accessFlags := 1041 }

def heap : Heap := #[]
def classes : Array Class := #[k0, k1, k2, k3, k4, k5, k6, k7, k8, k9]
def interned : List (Array UInt16 × Addr) := []
def slotsUsed : Nat := 0
def theMethod : MethodId := ⟨1, 1⟩
def args0 : Array Value := #[.int 5, .int 7]
def aboutOver (below : List Frame) : State where
  vm := { classes := classes, interned := interned.toArray }
  heap := heap
  slotsUsed := slotsUsed
  threads := #[{ frames := .invoking theMethod args0 :: below }]
def below0 : List Frame := [.native { method := ⟨0, 0⟩, args := #[] }]
def about1 : State := aboutOver below0
def p0 : Program := .bare "" "" ""
def e0 : Env := launch0.env 0 0 0
theorem w_frames : about1.frames = Frame.invoking theMethod args0 :: below0 := rfl
set_option maxRecDepth 65536 in
theorem w_args : argsFit about1.vm theMethod args0 = true := by decide +kernel
set_option maxRecDepth 65536 in
theorem w_heap : heapFits about1 = true := by decide +kernel
set_option maxRecDepth 65536 in
theorem w_runnable : about1.curStatus? = some .runnable := by decide +kernel
set_option maxRecDepth 65536 in
theorem w_alone : about1.alone = true := by decide +kernel
set_option maxRecDepth 65536 in
theorem w_named : about1.methodNamed? x = some theMethod := by decide +kernel
set_option maxRecDepth 65536 in
theorem w_hears : about1.hears theMethod below0 = true := by decide +kernel
set_option maxRecDepth 65536 in
theorem w_ripe : about1.ripe theMethod args0 below0 = true := by decide +kernel
theorem w_running : about1.status = .running := rfl
set_option maxRecDepth 65536 in
theorem w_room : about1.hasRoom e0.platform room_1 = true :=
  launch0.hasRoom_least _ room_1 (by decide +kernel) (by decide +kernel) (by decide +kernel) (by decide +kernel) (by decide +kernel) (by decide +kernel)
theorem allAtoms_all (ts : List Jvm.Cond) (a : Array Jvm.Value) (st : Jvm.State) : (allAtoms ts).before a st = ts.all (fun c => c.before a st) := by
  induction ts with
  | nil => rfl
  | cons c t ih =>
    show (Jvm.Cond.and c (allAtoms t)).before a st = _
    rw [Jvm.Cond.before_and, ih, List.all_cons]
def words1 : List Jvm.Cond := Jvm.Cond.code x code maxLocals ret :: tables_1
/-- a 'code' word, met by the world's own term for the bytes: nothing is compared byte by byte -/
theorem code_word {y : MethodName} {bytes : ByteArray} {mx : Nat} {rt : Option FieldType} {a : Array Value} {s : State} {m : MethodId} {meth : Method} {c : Code} (h1 : s.methodNamed? y = some m) (h2 : s.vm.method? m = some meth) (h3 : meth.code = some c) (h4 : c.code = bytes)
    (h5 : (c.maxLocals == mx && c.exceptionTable.isEmpty && decide (c.maxStack ≤ mostOperands) && decide (meth.sig.returnType = rt) && !meth.locks && decide (parseMethodDescriptor y.desc = some meth.sig)) = true) : (Jvm.Cond.code y bytes mx rt).before a s = true := by
  simp only [Bool.and_eq_true, beq_iff_eq, Bool.not_eq_true', decide_eq_true_eq] at h5
  obtain ⟨⟨⟨⟨⟨g1, g2⟩, g3⟩, g4⟩, g5⟩, g6⟩ := h5
  simp [Cond.before, Cond.holds, Cond.value, h1, h2, h3, h4, g1, g2, g3, g4, g5, g6]
def isCode : Jvm.Cond → Bool
  | .code _ _ _ _ => true
  | _ => false
theorem all_split {L : List Jvm.Cond} {P : Jvm.Cond → Bool} (h1 : L.all (fun c => isCode c || P c) = true) (h2 : ∀ c ∈ L.filter isCode, P c = true) : L.all P = true := by
  refine List.all_eq_true.mpr fun c hc => ?_
  have h := List.all_eq_true.mp h1 c hc
  rcases Bool.eq_false_or_eq_true (isCode c) with hi | hi
  · exact h2 c (List.mem_filter.mpr ⟨hc, hi⟩)
  · simpa [hi] using h
set_option maxRecDepth 65536 in
theorem w_c0 : (Jvm.Cond.code x code maxLocals ret).before args0 about1 = true := code_word (m := ⟨1, 1⟩) (meth := k1m1) (c := k1c1) (by decide +kernel) rfl rfl rfl (by decide +kernel)
set_option maxRecDepth 65536 in
theorem w_c1 : (Jvm.Cond.code ({ cls := "com/example/assayline/assayline/protocol/Mllp", name := "frame", desc := "([B)[B" } : Jvm.MethodName) prog_78_method_2_code (2 : Nat) (Option.some (Jvm.ClassFile.FieldType.array Jvm.ClassFile.FieldType.byte))).before args0 about1 = true := code_word (m := ⟨2, 1⟩) (meth := k2m1) (c := k2c1) (by decide +kernel) rfl rfl rfl (by decide +kernel)
set_option maxRecDepth 65536 in
theorem w_c2 : (Jvm.Cond.code ({ cls := "com/example/assayline/assayline/protocol/MllpFramePinLaw", name := "slot", desc := "([B[BIII)Z" } : Jvm.MethodName) method_3_code (6 : Nat) (Option.some Jvm.ClassFile.FieldType.boolean)).before args0 about1 = true := code_word (m := ⟨1, 2⟩) (meth := k1m2) (c := k1c2) (by decide +kernel) rfl rfl rfl (by decide +kernel)
def codes1 : List Jvm.Cond := [Jvm.Cond.code x code maxLocals ret, Jvm.Cond.code ({ cls := "com/example/assayline/assayline/protocol/Mllp", name := "frame", desc := "([B)[B" } : Jvm.MethodName) prog_78_method_2_code (2 : Nat) (Option.some (Jvm.ClassFile.FieldType.array Jvm.ClassFile.FieldType.byte)), Jvm.Cond.code ({ cls := "com/example/assayline/assayline/protocol/MllpFramePinLaw", name := "slot", desc := "([B[BIII)Z" } : Jvm.MethodName) method_3_code (6 : Nat) (Option.some Jvm.ClassFile.FieldType.boolean)]
set_option maxRecDepth 65536 in
theorem codes_eq : words1.filter isCode = codes1 := rfl
theorem w_codes : ∀ c ∈ words1.filter isCode, c.before args0 about1 = true := by
  rw [codes_eq]
  intro c hc
  simp only [codes1, List.mem_cons, List.not_mem_nil, or_false] at hc
  rcases hc with rfl | rfl | rfl
  · exact w_c0
  · exact w_c1
  · exact w_c2
set_option maxRecDepth 65536 in
theorem w_t1 : words1.all (fun c => isCode c || c.before args0 about1) = true := by decide +kernel
theorem w_tables : (allAtoms (Jvm.Cond.code x code maxLocals ret :: tables_1)).before args0 about1 = true := by
  rw [allAtoms_all]
  show words1.all (fun c => c.before args0 about1) = true
  refine all_split ?_ w_codes
  rw [w_t1]
set_option maxRecDepth 65536 in
theorem w_case : (Jvm.Cond.and given_1 narrow_1).before args0 about1 = true := by decide +kernel
theorem w_applies : (headSpec (Jvm.Cond.code x code maxLocals ret :: tables_1) room_1).applies x e0.platform about1 = true :=
  (Spec.applies_iff w_frames).mpr ⟨w_running, w_runnable, w_alone, w_named, w_hears, w_ripe, w_room, w_tables⟩
theorem atStart : AtStart classFile x code maxLocals ret World_1 tables_1 room_1 Calls_1 rest_1 Pre_1 launch0 p0 e0 about1 theMethod args0 below0 :=
  ⟨lists_1, trivial, launch0.admits_env _ _ _, launch0.least_env, fairChoices_fair.cas, fairChoices_fair.clock, w_frames, w_args, w_heap, w_applies, trivial, trivial, w_case⟩
end start1
theorem witness_1 : WitnessClaimed_1 := ⟨start1.p0, start1.e0, start1.about1, start1.theMethod, start1.args0, start1.below0, start1.atStart⟩
end Jvm.Pilot.@@N@@
