import JvmDerived
import JvmDerived.Pilot.@@N@@Statement
import JvmDerived.Pilot.@@N@@Code
set_option linter.unusedVariables false
set_option linter.unusedSimpArgs false

namespace Jvm.Pilot.@@N@@
open Jvm Jvm.ClassFile Sem Op Lib Jvm.Free Jvm.Stand Jvm.LawKit Jvm.RoadKit Bundle Jvm.Pilot.@@N@@.Jvm.D


section OwnKit
variable {p : Program} {l : Launch} {e : Env} {R : Room} {s : State} {m : MethodId} {args : Array Value} {below : List Frame} {meth : Method} {c : Code} {T : State} {locs : List Loc} {cells slots : Nat} {h : Heap} {Q : Option Value → Heap → List Loc → Prop} {C S : Nat}
/-- from the state t the run comes to its end, and what it leaves answers Q -/
def own_Gl (p : Program) (e : Env) (below : List Frame) (s : State) (Q : Option Value → Heap → List Loc → Prop) (C S : Nat) (t : State) : Prop :=
  ∃ s₂ o, Steps p.tables e below t s₂ ∧ s₂.status = .running ∧ Ended s₂ below o ∧ ∃ v L, o = .returned v ∧ Q v s₂.heap L ∧ FrameEnd s o s₂ L C S
theorem own_st {t t' : State} (k : ∀ target, Steps p.tables e below t' target → Steps p.tables e below t target) (d : own_Gl p e below s Q C S t') : own_Gl p e below s Q C S t := by
  obtain ⟨s₂, o, h1, h2⟩ := d
  exact ⟨s₂, o, k _ h1, h2⟩
theorem own_tr {t t' : State} (k : Steps p.tables e below t t') (d : own_Gl p e below s Q C S t') : own_Gl p e below s Q C S t := own_st (fun _ h => k.trans h) d
theorem own_cast {g g' : JFrame} (q : g = g') (d : own_Gl p e below s Q C S (T.setTop g')) : own_Gl p e below s Q C S (T.setTop g) := q ▸ d
theorem own_ret (X : Stand p l e R s m args below meth c T locs cells slots) (hlk : meth.locks = false) {v : Option Value} {t : State} (hv : meth.sig.returnType = none → v = none) (eT : T.heap = h) (hq : Q v h locs) (hc : cells ≤ C) (hs : slots ≤ S)
    (k : ∀ fs, (∀ (f : JFrame) (acts : List Action), f.method = m → f.locked = none → f.entered = [] → (doReturn e (T.setTop f) acts v).1 = T.setFrames fs) → Steps p.tables e below t (T.setFrames fs)) : own_Gl p e below s Q C S t := by
  obtain ⟨fs, hr, hrun, hended, hW, hsame⟩ := X.leave hv hlk
  exact ⟨_, _, k fs hr, hrun, hended, v, locs, rfl, by show Q v T.heap locs; rw [eT]; exact hq, ⟨_, rfl⟩, hW, hsame.mono hc hs⟩
theorem own_retI (X : Stand p l e R s m args below meth c T locs cells slots) (hx : p.tables.exec = Jvm.exec) (hlk : meth.locks = false) {pc : Nat} {Ls : Array Slot} {z : Int32} {rest : List Value} (hret : meth.sig.returnType = some .int) (hd : decode c.code pc = .ok (.ireturn, 1)) (eT : T.heap = h) (hq : Q (some (.int z)) h locs) (hc : cells ≤ C) (hs : slots ≤ S) :
    own_Gl p e below s Q C S (T.setTop (mkF m pc Ls (.int z :: rest))) :=
  own_ret X hlk (fun q => by rw [hret] at q; cases q) eT hq hc hs (fun _ hr => retOut X hx hret rfl (Or.inl ⟨rfl, Or.inl rfl, _, rfl⟩) hd hr)
theorem own_retN (X : Stand p l e R s m args below meth c T locs cells slots) (hx : p.tables.exec = Jvm.exec) (hlk : meth.locks = false) {pc : Nat} {Ls : Array Slot} {z : Int32} {t : FieldType} {rest : List Value} (hret : meth.sig.returnType = some t) (ht : t = .boolean ∨ t = .byte ∨ t = .char ∨ t = .short) (hd : decode c.code pc = .ok (.ireturn, 1)) (eT : T.heap = h) (hq : Q (some (.int (nar t z))) h locs) (hc : cells ≤ C) (hs : slots ≤ S) :
    own_Gl p e below s Q C S (T.setTop (mkF m pc Ls (.int z :: rest))) :=
  own_ret X hlk (fun q => by rw [hret] at q; cases q) eT hq hc hs (fun _ hr => retN X hx hret ht hd hr)
theorem own_retJ (X : Stand p l e R s m args below meth c T locs cells slots) (hx : p.tables.exec = Jvm.exec) (hlk : meth.locks = false) {pc : Nat} {Ls : Array Slot} {z : Int64} {rest : List Value} (hret : meth.sig.returnType = some .long) (hd : decode c.code pc = .ok (.lreturn, 1)) (eT : T.heap = h) (hq : Q (some (.long z)) h locs) (hc : cells ≤ C) (hs : slots ≤ S) :
    own_Gl p e below s Q C S (T.setTop (mkF m pc Ls (.long z :: rest))) :=
  own_ret X hlk (fun q => by rw [hret] at q; cases q) eT hq hc hs (fun _ hr => retOut X hx hret rfl (Or.inr (Or.inl ⟨rfl, rfl, _, rfl⟩)) hd hr)
theorem own_retA (X : Stand p l e R s m args below meth c T locs cells slots) (hx : p.tables.exec = Jvm.exec) (hlk : meth.locks = false) {pc : Nat} {Ls : Array Slot} {w : Value} {t : FieldType} {rest : List Value} (hret : meth.sig.returnType = some t) (ht : t.isReference = true) (hw : w.isRef = true) (hn : narrow t w = w) (hd : decode c.code pc = .ok (.areturn, 1)) (eT : T.heap = h) (hq : Q (some w) h locs) (hc : cells ≤ C) (hs : slots ≤ S) :
    own_Gl p e below s Q C S (T.setTop (mkF m pc Ls (w :: rest))) :=
  own_ret X hlk (fun q => by rw [hret] at q; cases q) eT hq hc hs (fun _ hr => retOut X hx hret hn (Or.inr (Or.inr (Or.inr (Or.inr ⟨rfl, ht, hw⟩)))) hd hr)
theorem own_retV (X : Stand p l e R s m args below meth c T locs cells slots) (hx : p.tables.exec = Jvm.exec) (hlk : meth.locks = false) {pc : Nat} {Ls : Array Slot} (hret : meth.sig.returnType = none) (hd : decode c.code pc = .ok (.return_, 1)) (eT : T.heap = h) (hq : Q none h locs) (hc : cells ≤ C) (hs : slots ≤ S) :
    own_Gl p e below s Q C S (T.setTop (mkF m pc Ls [])) :=
  own_ret X hlk (fun _ => rfl) eT hq hc hs (fun _ hr => X.returnOut hx hret hd hr)
end OwnKit


theorem own_c255 (x : Int32) : ¬ ((255 : Int32) < (nar .char ((x &&& (255 : Int32)).toUInt32.toUInt16.toUInt32.toInt32))) := by
  have h := c_mask x (255 : Int32) 8 (by decide) (by decide)
  have c1 := c_i2c (x &&& (255 : Int32))
  have hn (y : Int32) : nar .char y = y.toUInt32.toUInt16.toUInt32.toInt32 := rfl
  have c2 := c_i2c ((x &&& (255 : Int32)).toUInt32.toUInt16.toUInt32.toInt32)
  have e : (255 : Int32).toInt = 255 := by decide
  rw [Int32.lt_iff_toInt_lt, hn]
  omega
theorem own_per (x : Int32) : ¬ (((1 : Int32) + ((x &&& (2147483647 : Int32)) % (1200 : Int32))) < (1 : Int32)) ∧ ¬ ((1200 : Int32) < ((1 : Int32) + ((x &&& (2147483647 : Int32)) % (1200 : Int32)))) := by
  have h := c_mask x (2147483647 : Int32) 31 (by decide) (by decide)
  have e12 : (1200 : Int32).toInt = 1200 := by decide
  have e1 : (1 : Int32).toInt = 1 := by decide
  have h2 := (c_irem (x &&& (2147483647 : Int32)) (1200 : Int32) 1200 e12).1 (by omega)
  have h3 := c_iadd (1 : Int32) ((x &&& (2147483647 : Int32)) % (1200 : Int32))
  have r := rng32 ((1 : Int32) + ((x &&& (2147483647 : Int32)) % (1200 : Int32)))
  rw [Int32.lt_iff_toInt_lt, Int32.lt_iff_toInt_lt]
  omega

theorem own_d_jdk_52_method_21_code_0 : decode jdk_52_method_21_code 0 = .ok (.iconst 0, 1) := by decide +kernel
theorem own_d_jdk_52_method_21_code_1 : decode jdk_52_method_21_code 1 = .ok (.istore 5, 2) := by decide +kernel
theorem own_d_jdk_52_method_21_code_3 : decode jdk_52_method_21_code 3 = .ok (.iload 5, 2) := by decide +kernel
theorem own_d_jdk_52_method_21_code_5 : decode jdk_52_method_21_code 5 = .ok (.iload 4, 2) := by decide +kernel
theorem own_d_jdk_52_method_21_code_7 : decode jdk_52_method_21_code 7 = .ok (.if_icmp .ge 37, 3) := by decide +kernel
theorem own_d_jdk_52_method_21_code_10 : decode jdk_52_method_21_code 10 = .ok (.aload_n 0, 1) := by decide +kernel
theorem own_d_jdk_52_method_21_code_11 : decode jdk_52_method_21_code 11 = .ok (.iload_n 1, 1) := by decide +kernel
theorem own_d_jdk_52_method_21_code_12 : decode jdk_52_method_21_code 12 = .ok (.caload, 1) := by decide +kernel
theorem own_d_jdk_52_method_21_code_13 : decode jdk_52_method_21_code 13 = .ok (.istore 6, 2) := by decide +kernel
theorem own_d_jdk_52_method_21_code_15 : decode jdk_52_method_21_code 15 = .ok (.iload 6, 2) := by decide +kernel
theorem own_d_jdk_52_method_21_code_17 : decode jdk_52_method_21_code 17 = .ok (.sipush 255, 3) := by decide +kernel
theorem own_d_jdk_52_method_21_code_20 : decode jdk_52_method_21_code 20 = .ok (.if_icmp .le 6, 3) := by decide +kernel
theorem own_d_jdk_52_method_21_code_26 : decode jdk_52_method_21_code 26 = .ok (.aload_n 2, 1) := by decide +kernel
theorem own_d_jdk_52_method_21_code_27 : decode jdk_52_method_21_code 27 = .ok (.iload_n 3, 1) := by decide +kernel
theorem own_d_jdk_52_method_21_code_28 : decode jdk_52_method_21_code 28 = .ok (.iload 6, 2) := by decide +kernel
theorem own_d_jdk_52_method_21_code_30 : decode jdk_52_method_21_code 30 = .ok (.i2b, 1) := by decide +kernel
theorem own_d_jdk_52_method_21_code_31 : decode jdk_52_method_21_code 31 = .ok (.bastore, 1) := by decide +kernel
theorem own_d_jdk_52_method_21_code_32 : decode jdk_52_method_21_code 32 = .ok (.iinc 1 1, 3) := by decide +kernel
theorem own_d_jdk_52_method_21_code_35 : decode jdk_52_method_21_code 35 = .ok (.iinc 3 1, 3) := by decide +kernel
theorem own_d_jdk_52_method_21_code_38 : decode jdk_52_method_21_code 38 = .ok (.iinc 5 1, 3) := by decide +kernel
theorem own_d_jdk_52_method_21_code_41 : decode jdk_52_method_21_code 41 = .ok (.goto (-38), 3) := by decide +kernel
theorem own_d_jdk_52_method_21_code_44 : decode jdk_52_method_21_code 44 = .ok (.iload 4, 2) := by decide +kernel
theorem own_d_jdk_52_method_21_code_46 : decode jdk_52_method_21_code 46 = .ok (.ireturn, 1) := by decide +kernel
theorem own_ef_own_c5_2_2 (m : MethodId) (x0 : Addr) (x1 : Int32) (x2 : Addr) (x3 : Int32) (x4 : Int32) : entryFrame m #[(.ref x0), (.int x1), (.ref x2), (.int x3), (.int x4)] 7 = mkF m 0 #[.val (.ref x0), .val (.int x1), .val (.ref x2), .val (.int x3), .val (.int x4), .unset, .unset] [] := by first | (simp [entryFrame, mkF, argsToLocals, Value.category]; done) | rfl
def own_Q_own_c5_2_2 (Z : State) (a : Addr) (b : Addr) (k : ClassId) (kb : ClassId) (v0 : Int32) (v1 : Int32) (h0 : Heap) (n0 : Nat) (v : Option Value) (h : Heap) (L : List Loc) : Prop := (v = some (.int (2 : Int32))) ∧ (Fr n0 L) ∧ (Keep h0 h [b]) ∧ (Arv Z h b kb .byte (2 : Int32) [(.int (nar .byte (v0.toInt8.toInt32))), (.int (nar .byte (v1.toInt8.toInt32)))] (.int (0 : Int32)))
theorem own_pn730740715 : plainName "java/lang/StringUTF16" = true := by first | (simp [plainName, overriddenIn]; done) | decide +kernel
set_option maxRecDepth 65536 in
set_option maxHeartbeats 40000000 in
theorem own_c5_2_2 (l : Launch) (Z : State) (a0 : Array Value) (hw : ∀ d ∈ tables_1, d.before a0 Z = true) (ws : List Jvm.Cond) (a : Addr) (b : Addr) (k : ClassId) (kb : ClassId) (v0 : Int32) (v1 : Int32) (h0 : Heap) (n0 : Nat) (Z0 : n0 ≤ h0.size) (V_a : Arv Z h0 a k .char (2 : Int32) [(.int v0), (.int v1)] (.int (0 : Int32))) (V_b : Arv Z h0 b kb .byte (2 : Int32) [(.int (0 : Int32)), (.int (0 : Int32))] (.int (0 : Int32))) (g_b : n0 ≤ b) (ne_a_b : a ≠ b) (hle0 : ¬ ((255 : Int32) < v0)) (hle1 : ¬ ((255 : Int32) < v1)) :
    MetFree l (⟨"java/lang/StringUTF16", "compress", "([CI[BII)I"⟩ : MethodName) (head1 (Jvm.Cond.code (⟨"java/lang/StringUTF16", "compress", "([CI[BII)I"⟩ : MethodName) jdk_52_method_21_code 7 (some .int) :: ws) ({ frames := 0, cells := 0, slots := 0, locals := 0 } : Room)) (fun xa xU => xa = #[(.ref a), (.int (0 : Int32)), (.ref b), (.int (0 : Int32)), (.int (2 : Int32))] ∧ Z.Warmed39 xU.vm ∧ xU.heap = h0) (fun _ _ _ _ _ => True) (fun _ xU xo xV => ∃ v L, xo = .returned v ∧ own_Q_own_c5_2_2 Z a b k kb v0 v1 h0 n0 v xV.heap L ∧ FrameEnd xU xo xV L ({ frames := 0, cells := 0, slots := 0, locals := 0 } : Room).cells ({ frames := 0, cells := 0, slots := 0, locals := 0 } : Room).slots) := by
  refine MetFree.of_bodySF (plainFor_of_name own_pn730740715) hisR ?_
  intro p e s m args below meth c s₁ Bd hml0 hP hK
  obtain ⟨rfl, hZ, hh⟩ := hP
  have hx := Bd.exec
  have hby := Bd.bytes
  have hlk := Bd.notSynchronized
  have hret := Bd.returns
  have hml : c.maxLocals = 7 := hml0
  have hown : s.vm.findClass "java/lang/StringUTF16" = some m.cls := findClass_of_methodNamed Bd.named
  have hnm := (name_of_methodNamed Bd.named Bd.method).1
  have X0 : Stand p l e ({ frames := 0, cells := 0, slots := 0, locals := 0 } : Room) s m #[(.ref a), (.int (0 : Int32)), (.ref b), (.int (0 : Int32)), (.int (2 : Int32))] below meth c s₁ [] 0 0 := Stand.of_body Bd
  have e0 : s₁.heap = h0 := by rw [← hh, Bd.state]; rfl
  have N0 := Fr.nil n0
  show own_Gl p e below s (own_Q_own_c5_2_2 Z a b k kb v0 v1 h0 n0) ({ frames := 0, cells := 0, slots := 0, locals := 0 } : Room).cells ({ frames := 0, cells := 0, slots := 0, locals := 0 } : Room).slots _
  refine own_cast (own_ef_own_c5_2_2 m a (0 : Int32) b (0 : Int32) (2 : Int32)) ?_
  show own_Gl _ _ _ _ _ _ _ (s₁.setTop (mkF m 0 #[.val (.ref a), .val (.int (0 : Int32)), .val (.ref b), .val (.int (0 : Int32)), .val (.int (2 : Int32)), .unset, .unset] []))
  refine own_st (fun _ k => XS.iconst X0.here hx rfl (hb hby own_d_jdk_52_method_21_code_0) k) ?_
  show own_Gl _ _ _ _ _ _ _ (s₁.setTop (mkF m 1 #[.val (.ref a), .val (.int (0 : Int32)), .val (.ref b), .val (.int (0 : Int32)), .val (.int (2 : Int32)), .unset, .unset] [(.int (0 : Int32))]))
  refine own_st (fun _ k => XS.istore X0.here hx rfl (hb hby own_d_jdk_52_method_21_code_1) rfl (l' := #[.val (.ref a), .val (.int (0 : Int32)), .val (.ref b), .val (.int (0 : Int32)), .val (.int (2 : Int32)), .val (.int (0 : Int32)), .unset]) rfl k) ?_
  show own_Gl _ _ _ _ _ _ _ (s₁.setTop (mkF m 3 #[.val (.ref a), .val (.int (0 : Int32)), .val (.ref b), .val (.int (0 : Int32)), .val (.int (2 : Int32)), .val (.int (0 : Int32)), .unset] []))
  refine own_st (fun _ k => XS.iload X0.here hx rfl (hb hby own_d_jdk_52_method_21_code_3) rfl k) ?_
  show own_Gl _ _ _ _ _ _ _ (s₁.setTop (mkF m 5 #[.val (.ref a), .val (.int (0 : Int32)), .val (.ref b), .val (.int (0 : Int32)), .val (.int (2 : Int32)), .val (.int (0 : Int32)), .unset] [(.int (0 : Int32))]))
  refine own_st (fun _ k => XS.iload X0.here hx rfl (hb hby own_d_jdk_52_method_21_code_5) rfl k) ?_
  show own_Gl _ _ _ _ _ _ _ (s₁.setTop (mkF m 7 #[.val (.ref a), .val (.int (0 : Int32)), .val (.ref b), .val (.int (0 : Int32)), .val (.int (2 : Int32)), .val (.int (0 : Int32)), .unset] [(.int (2 : Int32)), (.int (0 : Int32))]))
  have hd1 : (0 : Int32) < (2 : Int32) := (by decide)
  refine own_st (fun _ k => XS.icmpNo X0.here hx rfl (hb hby own_d_jdk_52_method_21_code_7) rfl (tlt hd1).2.1 k) ?_
  show own_Gl _ _ _ _ _ _ _ (s₁.setTop (mkF m 10 #[.val (.ref a), .val (.int (0 : Int32)), .val (.ref b), .val (.int (0 : Int32)), .val (.int (2 : Int32)), .val (.int (0 : Int32)), .unset] []))
  refine own_st (fun _ k => XS.aloadN X0.here hx rfl (hb hby own_d_jdk_52_method_21_code_10) rfl rfl k) ?_
  show own_Gl _ _ _ _ _ _ _ (s₁.setTop (mkF m 11 #[.val (.ref a), .val (.int (0 : Int32)), .val (.ref b), .val (.int (0 : Int32)), .val (.int (2 : Int32)), .val (.int (0 : Int32)), .unset] [(.ref a)]))
  refine own_st (fun _ k => XS.iloadN X0.here hx rfl (hb hby own_d_jdk_52_method_21_code_11) rfl k) ?_
  show own_Gl _ _ _ _ _ _ _ (s₁.setTop (mkF m 12 #[.val (.ref a), .val (.int (0 : Int32)), .val (.ref b), .val (.int (0 : Int32)), .val (.int (2 : Int32)), .val (.int (0 : Int32)), .unset] [(.int (0 : Int32)), (.ref a)]))
  obtain ⟨cl2, Ar2, qq2, Ss2, Nn2, Hh2, Gg2⟩ := id V_a
  have hin2 : ¬ ((0 : Int32) < 0 ∨ cl2.slots.size ≤ ((0 : Int32)).toNatClampNeg) := inb_of Ss2 ⟨by decide, by decide⟩
  have hat2 : cl2.slots[((0 : Int32)).toNatClampNeg]? = some (.int v0) := Hh2.at hin2 (rfl)
  refine own_st (X0.caload hx (j := (0 : Int32)) (v := (.int v0)) (by rw [e0]; exact Ar2.1) (State.isArrayOf_alike hZ.alike Ar2.2.1) Ar2.2.2 hin2 hat2 (g := (mkF m 12 #[.val (.ref a), .val (.int (0 : Int32)), .val (.ref b), .val (.int (0 : Int32)), .val (.int (2 : Int32)), .val (.int (0 : Int32)), .unset] [(.int (0 : Int32)), (.ref a)])) rfl rfl (hb hby own_d_jdk_52_method_21_code_12)) ?_
  show own_Gl _ _ _ _ _ _ _ (s₁.setTop (mkF m 13 #[.val (.ref a), .val (.int (0 : Int32)), .val (.ref b), .val (.int (0 : Int32)), .val (.int (2 : Int32)), .val (.int (0 : Int32)), .unset] [(.int v0)]))
  refine own_st (fun _ k => XS.istore X0.here hx rfl (hb hby own_d_jdk_52_method_21_code_13) rfl (l' := #[.val (.ref a), .val (.int (0 : Int32)), .val (.ref b), .val (.int (0 : Int32)), .val (.int (2 : Int32)), .val (.int (0 : Int32)), .val (.int v0)]) rfl k) ?_
  show own_Gl _ _ _ _ _ _ _ (s₁.setTop (mkF m 15 #[.val (.ref a), .val (.int (0 : Int32)), .val (.ref b), .val (.int (0 : Int32)), .val (.int (2 : Int32)), .val (.int (0 : Int32)), .val (.int v0)] []))
  refine own_st (fun _ k => XS.iload X0.here hx rfl (hb hby own_d_jdk_52_method_21_code_15) rfl k) ?_
  show own_Gl _ _ _ _ _ _ _ (s₁.setTop (mkF m 17 #[.val (.ref a), .val (.int (0 : Int32)), .val (.ref b), .val (.int (0 : Int32)), .val (.int (2 : Int32)), .val (.int (0 : Int32)), .val (.int v0)] [(.int v0)]))
  refine own_st (fun _ k => XS.sipush X0.here hx rfl (hb hby own_d_jdk_52_method_21_code_17) k) ?_
  show own_Gl _ _ _ _ _ _ _ (s₁.setTop (mkF m 20 #[.val (.ref a), .val (.int (0 : Int32)), .val (.ref b), .val (.int (0 : Int32)), .val (.int (2 : Int32)), .val (.int (0 : Int32)), .val (.int v0)] [(.int (255 : Int32)), (.int v0)]))
  have hd3 : ¬ ((255 : Int32) < v0) := hle0
  refine own_st (fun _ k => XS.icmpYes X0.here hx rfl (pc0 := 20) (pc' := 26) rfl (hb hby own_d_jdk_52_method_21_code_20) rfl (flt hd3).2.2.2 (by decide) (by decide) k) ?_
  show own_Gl _ _ _ _ _ _ _ (s₁.setTop (mkF m 26 #[.val (.ref a), .val (.int (0 : Int32)), .val (.ref b), .val (.int (0 : Int32)), .val (.int (2 : Int32)), .val (.int (0 : Int32)), .val (.int v0)] []))
  refine own_st (fun _ k => XS.aloadN X0.here hx rfl (hb hby own_d_jdk_52_method_21_code_26) rfl rfl k) ?_
  show own_Gl _ _ _ _ _ _ _ (s₁.setTop (mkF m 27 #[.val (.ref a), .val (.int (0 : Int32)), .val (.ref b), .val (.int (0 : Int32)), .val (.int (2 : Int32)), .val (.int (0 : Int32)), .val (.int v0)] [(.ref b)]))
  refine own_st (fun _ k => XS.iloadN X0.here hx rfl (hb hby own_d_jdk_52_method_21_code_27) rfl k) ?_
  show own_Gl _ _ _ _ _ _ _ (s₁.setTop (mkF m 28 #[.val (.ref a), .val (.int (0 : Int32)), .val (.ref b), .val (.int (0 : Int32)), .val (.int (2 : Int32)), .val (.int (0 : Int32)), .val (.int v0)] [(.int (0 : Int32)), (.ref b)]))
  refine own_st (fun _ k => XS.iload X0.here hx rfl (hb hby own_d_jdk_52_method_21_code_28) rfl k) ?_
  show own_Gl _ _ _ _ _ _ _ (s₁.setTop (mkF m 30 #[.val (.ref a), .val (.int (0 : Int32)), .val (.ref b), .val (.int (0 : Int32)), .val (.int (2 : Int32)), .val (.int (0 : Int32)), .val (.int v0)] [(.int v0), (.int (0 : Int32)), (.ref b)]))
  refine own_st (fun _ k => XS.i2b X0.here hx rfl (hb hby own_d_jdk_52_method_21_code_30) rfl k) ?_
  show own_Gl _ _ _ _ _ _ _ (s₁.setTop (mkF m 31 #[.val (.ref a), .val (.int (0 : Int32)), .val (.ref b), .val (.int (0 : Int32)), .val (.int (2 : Int32)), .val (.int (0 : Int32)), .val (.int v0)] [(.int (v0.toInt8.toInt32)), (.int (0 : Int32)), (.ref b)]))
  obtain ⟨cl4, Ar4, qq4, Ss4, Nn4, Hh4, Gg4⟩ := id V_b
  have hin4 : ¬ ((0 : Int32) < 0 ∨ cl4.slots.size ≤ ((0 : Int32)).toNatClampNeg) := inb_of Ss4 ⟨by decide, by decide⟩
  obtain ⟨T4, h4, X4, e4, W4, st4⟩ := stB X0 hx hZ e0 Ar4 (j := (0 : Int32)) hin4 (g := (mkF m 31 #[.val (.ref a), .val (.int (0 : Int32)), .val (.ref b), .val (.int (0 : Int32)), .val (.int (2 : Int32)), .val (.int (0 : Int32)), .val (.int v0)] [(.int (v0.toInt8.toInt32)), (.int (0 : Int32)), (.ref b)])) rfl rfl (hb hby own_d_jdk_52_method_21_code_31)
  have N4 := Fr.snoc X4 N0 g_b
  refine own_st st4 ?_
  have Zs5 : n0 ≤ h4.size := Nat.le_trans Z0 (Keep.of_wr W4).1
  have Vw4 : Arv Z h4 b kb .byte (2 : Int32) [(.int (nar .byte (v0.toInt8.toInt32))), (.int (0 : Int32))] (.int (0 : Int32)) := Arv.set Ar4 qq4 Ss4 Nn4 Hh4 Gg4 (fits_nar_byte _) W4 0 (rfl) (Nat.le_of_ble_eq_true rfl)
  show own_Gl _ _ _ _ _ _ _ (T4.setTop (mkF m 32 #[.val (.ref a), .val (.int (0 : Int32)), .val (.ref b), .val (.int (0 : Int32)), .val (.int (2 : Int32)), .val (.int (0 : Int32)), .val (.int v0)] []))
  refine own_st (fun _ k => XS.iinc X4.here hx rfl (hb hby own_d_jdk_52_method_21_code_32) rfl (l' := #[.val (.ref a), .val (.int (1 : Int32)), .val (.ref b), .val (.int (0 : Int32)), .val (.int (2 : Int32)), .val (.int (0 : Int32)), .val (.int v0)]) rfl k) ?_
  show own_Gl _ _ _ _ _ _ _ (T4.setTop (mkF m 35 #[.val (.ref a), .val (.int (1 : Int32)), .val (.ref b), .val (.int (0 : Int32)), .val (.int (2 : Int32)), .val (.int (0 : Int32)), .val (.int v0)] []))
  refine own_st (fun _ k => XS.iinc X4.here hx rfl (hb hby own_d_jdk_52_method_21_code_35) rfl (l' := #[.val (.ref a), .val (.int (1 : Int32)), .val (.ref b), .val (.int (1 : Int32)), .val (.int (2 : Int32)), .val (.int (0 : Int32)), .val (.int v0)]) rfl k) ?_
  show own_Gl _ _ _ _ _ _ _ (T4.setTop (mkF m 38 #[.val (.ref a), .val (.int (1 : Int32)), .val (.ref b), .val (.int (1 : Int32)), .val (.int (2 : Int32)), .val (.int (0 : Int32)), .val (.int v0)] []))
  refine own_st (fun _ k => XS.iinc X4.here hx rfl (hb hby own_d_jdk_52_method_21_code_38) rfl (l' := #[.val (.ref a), .val (.int (1 : Int32)), .val (.ref b), .val (.int (1 : Int32)), .val (.int (2 : Int32)), .val (.int (1 : Int32)), .val (.int v0)]) rfl k) ?_
  show own_Gl _ _ _ _ _ _ _ (T4.setTop (mkF m 41 #[.val (.ref a), .val (.int (1 : Int32)), .val (.ref b), .val (.int (1 : Int32)), .val (.int (2 : Int32)), .val (.int (1 : Int32)), .val (.int v0)] []))
  refine own_st (fun _ k => XS.goto X4.here hx rfl (pc0 := 41) (pc' := 3) rfl (hb hby own_d_jdk_52_method_21_code_41) (by decide) (by decide) k) ?_
  show own_Gl _ _ _ _ _ _ _ (T4.setTop (mkF m 3 #[.val (.ref a), .val (.int (1 : Int32)), .val (.ref b), .val (.int (1 : Int32)), .val (.int (2 : Int32)), .val (.int (1 : Int32)), .val (.int v0)] []))
  refine own_st (fun _ k => XS.iload X4.here hx rfl (hb hby own_d_jdk_52_method_21_code_3) rfl k) ?_
  show own_Gl _ _ _ _ _ _ _ (T4.setTop (mkF m 5 #[.val (.ref a), .val (.int (1 : Int32)), .val (.ref b), .val (.int (1 : Int32)), .val (.int (2 : Int32)), .val (.int (1 : Int32)), .val (.int v0)] [(.int (1 : Int32))]))
  refine own_st (fun _ k => XS.iload X4.here hx rfl (hb hby own_d_jdk_52_method_21_code_5) rfl k) ?_
  show own_Gl _ _ _ _ _ _ _ (T4.setTop (mkF m 7 #[.val (.ref a), .val (.int (1 : Int32)), .val (.ref b), .val (.int (1 : Int32)), .val (.int (2 : Int32)), .val (.int (1 : Int32)), .val (.int v0)] [(.int (2 : Int32)), (.int (1 : Int32))]))
  have hd6 : (1 : Int32) < (2 : Int32) := (by decide)
  refine own_st (fun _ k => XS.icmpNo X4.here hx rfl (hb hby own_d_jdk_52_method_21_code_7) rfl (tlt hd6).2.1 k) ?_
  show own_Gl _ _ _ _ _ _ _ (T4.setTop (mkF m 10 #[.val (.ref a), .val (.int (1 : Int32)), .val (.ref b), .val (.int (1 : Int32)), .val (.int (2 : Int32)), .val (.int (1 : Int32)), .val (.int v0)] []))
  refine own_st (fun _ k => XS.aloadN X4.here hx rfl (hb hby own_d_jdk_52_method_21_code_10) rfl rfl k) ?_
  show own_Gl _ _ _ _ _ _ _ (T4.setTop (mkF m 11 #[.val (.ref a), .val (.int (1 : Int32)), .val (.ref b), .val (.int (1 : Int32)), .val (.int (2 : Int32)), .val (.int (1 : Int32)), .val (.int v0)] [(.ref a)]))
  refine own_st (fun _ k => XS.iloadN X4.here hx rfl (hb hby own_d_jdk_52_method_21_code_11) rfl k) ?_
  show own_Gl _ _ _ _ _ _ _ (T4.setTop (mkF m 12 #[.val (.ref a), .val (.int (1 : Int32)), .val (.ref b), .val (.int (1 : Int32)), .val (.int (2 : Int32)), .val (.int (1 : Int32)), .val (.int v0)] [(.int (1 : Int32)), (.ref a)]))
  have f7 := (V_a.other W4 ne_a_b)
  obtain ⟨cl8, Ar8, qq8, Ss8, Nn8, Hh8, Gg8⟩ := id f7
  have hin8 : ¬ ((1 : Int32) < 0 ∨ cl8.slots.size ≤ ((1 : Int32)).toNatClampNeg) := inb_of Ss8 ⟨by decide, by decide⟩
  have hat8 : cl8.slots[((1 : Int32)).toNatClampNeg]? = some (.int v1) := Hh8.at hin8 (rfl)
  refine own_st (X4.caload hx (j := (1 : Int32)) (v := (.int v1)) (by rw [e4]; exact Ar8.1) (State.isArrayOf_alike hZ.alike Ar8.2.1) Ar8.2.2 hin8 hat8 (g := (mkF m 12 #[.val (.ref a), .val (.int (1 : Int32)), .val (.ref b), .val (.int (1 : Int32)), .val (.int (2 : Int32)), .val (.int (1 : Int32)), .val (.int v0)] [(.int (1 : Int32)), (.ref a)])) rfl rfl (hb hby own_d_jdk_52_method_21_code_12)) ?_
  show own_Gl _ _ _ _ _ _ _ (T4.setTop (mkF m 13 #[.val (.ref a), .val (.int (1 : Int32)), .val (.ref b), .val (.int (1 : Int32)), .val (.int (2 : Int32)), .val (.int (1 : Int32)), .val (.int v0)] [(.int v1)]))
  refine own_st (fun _ k => XS.istore X4.here hx rfl (hb hby own_d_jdk_52_method_21_code_13) rfl (l' := #[.val (.ref a), .val (.int (1 : Int32)), .val (.ref b), .val (.int (1 : Int32)), .val (.int (2 : Int32)), .val (.int (1 : Int32)), .val (.int v1)]) rfl k) ?_
  show own_Gl _ _ _ _ _ _ _ (T4.setTop (mkF m 15 #[.val (.ref a), .val (.int (1 : Int32)), .val (.ref b), .val (.int (1 : Int32)), .val (.int (2 : Int32)), .val (.int (1 : Int32)), .val (.int v1)] []))
  refine own_st (fun _ k => XS.iload X4.here hx rfl (hb hby own_d_jdk_52_method_21_code_15) rfl k) ?_
  show own_Gl _ _ _ _ _ _ _ (T4.setTop (mkF m 17 #[.val (.ref a), .val (.int (1 : Int32)), .val (.ref b), .val (.int (1 : Int32)), .val (.int (2 : Int32)), .val (.int (1 : Int32)), .val (.int v1)] [(.int v1)]))
  refine own_st (fun _ k => XS.sipush X4.here hx rfl (hb hby own_d_jdk_52_method_21_code_17) k) ?_
  show own_Gl _ _ _ _ _ _ _ (T4.setTop (mkF m 20 #[.val (.ref a), .val (.int (1 : Int32)), .val (.ref b), .val (.int (1 : Int32)), .val (.int (2 : Int32)), .val (.int (1 : Int32)), .val (.int v1)] [(.int (255 : Int32)), (.int v1)]))
  have hd9 : ¬ ((255 : Int32) < v1) := hle1
  refine own_st (fun _ k => XS.icmpYes X4.here hx rfl (pc0 := 20) (pc' := 26) rfl (hb hby own_d_jdk_52_method_21_code_20) rfl (flt hd9).2.2.2 (by decide) (by decide) k) ?_
  show own_Gl _ _ _ _ _ _ _ (T4.setTop (mkF m 26 #[.val (.ref a), .val (.int (1 : Int32)), .val (.ref b), .val (.int (1 : Int32)), .val (.int (2 : Int32)), .val (.int (1 : Int32)), .val (.int v1)] []))
  refine own_st (fun _ k => XS.aloadN X4.here hx rfl (hb hby own_d_jdk_52_method_21_code_26) rfl rfl k) ?_
  show own_Gl _ _ _ _ _ _ _ (T4.setTop (mkF m 27 #[.val (.ref a), .val (.int (1 : Int32)), .val (.ref b), .val (.int (1 : Int32)), .val (.int (2 : Int32)), .val (.int (1 : Int32)), .val (.int v1)] [(.ref b)]))
  refine own_st (fun _ k => XS.iloadN X4.here hx rfl (hb hby own_d_jdk_52_method_21_code_27) rfl k) ?_
  show own_Gl _ _ _ _ _ _ _ (T4.setTop (mkF m 28 #[.val (.ref a), .val (.int (1 : Int32)), .val (.ref b), .val (.int (1 : Int32)), .val (.int (2 : Int32)), .val (.int (1 : Int32)), .val (.int v1)] [(.int (1 : Int32)), (.ref b)]))
  refine own_st (fun _ k => XS.iload X4.here hx rfl (hb hby own_d_jdk_52_method_21_code_28) rfl k) ?_
  show own_Gl _ _ _ _ _ _ _ (T4.setTop (mkF m 30 #[.val (.ref a), .val (.int (1 : Int32)), .val (.ref b), .val (.int (1 : Int32)), .val (.int (2 : Int32)), .val (.int (1 : Int32)), .val (.int v1)] [(.int v1), (.int (1 : Int32)), (.ref b)]))
  refine own_st (fun _ k => XS.i2b X4.here hx rfl (hb hby own_d_jdk_52_method_21_code_30) rfl k) ?_
  show own_Gl _ _ _ _ _ _ _ (T4.setTop (mkF m 31 #[.val (.ref a), .val (.int (1 : Int32)), .val (.ref b), .val (.int (1 : Int32)), .val (.int (2 : Int32)), .val (.int (1 : Int32)), .val (.int v1)] [(.int (v1.toInt8.toInt32)), (.int (1 : Int32)), (.ref b)]))
  obtain ⟨cl10, Ar10, qq10, Ss10, Nn10, Hh10, Gg10⟩ := id Vw4
  have hin10 : ¬ ((1 : Int32) < 0 ∨ cl10.slots.size ≤ ((1 : Int32)).toNatClampNeg) := inb_of Ss10 ⟨by decide, by decide⟩
  obtain ⟨T10, h10, X10, e10, W10, st10⟩ := stB X4 hx hZ e4 Ar10 (j := (1 : Int32)) hin10 (g := (mkF m 31 #[.val (.ref a), .val (.int (1 : Int32)), .val (.ref b), .val (.int (1 : Int32)), .val (.int (2 : Int32)), .val (.int (1 : Int32)), .val (.int v1)] [(.int (v1.toInt8.toInt32)), (.int (1 : Int32)), (.ref b)])) rfl rfl (hb hby own_d_jdk_52_method_21_code_31)
  have N10 := Fr.snoc X10 N4 g_b
  refine own_st st10 ?_
  have Zs11 : n0 ≤ h10.size := Nat.le_trans Zs5 (Keep.of_wr W10).1
  have Vw10 : Arv Z h10 b kb .byte (2 : Int32) [(.int (nar .byte (v0.toInt8.toInt32))), (.int (nar .byte (v1.toInt8.toInt32)))] (.int (0 : Int32)) := Arv.set Ar10 qq10 Ss10 Nn10 Hh10 Gg10 (fits_nar_byte _) W10 1 (rfl) (Nat.le_of_ble_eq_true rfl)
  show own_Gl _ _ _ _ _ _ _ (T10.setTop (mkF m 32 #[.val (.ref a), .val (.int (1 : Int32)), .val (.ref b), .val (.int (1 : Int32)), .val (.int (2 : Int32)), .val (.int (1 : Int32)), .val (.int v1)] []))
  refine own_st (fun _ k => XS.iinc X10.here hx rfl (hb hby own_d_jdk_52_method_21_code_32) rfl (l' := #[.val (.ref a), .val (.int (2 : Int32)), .val (.ref b), .val (.int (1 : Int32)), .val (.int (2 : Int32)), .val (.int (1 : Int32)), .val (.int v1)]) rfl k) ?_
  show own_Gl _ _ _ _ _ _ _ (T10.setTop (mkF m 35 #[.val (.ref a), .val (.int (2 : Int32)), .val (.ref b), .val (.int (1 : Int32)), .val (.int (2 : Int32)), .val (.int (1 : Int32)), .val (.int v1)] []))
  refine own_st (fun _ k => XS.iinc X10.here hx rfl (hb hby own_d_jdk_52_method_21_code_35) rfl (l' := #[.val (.ref a), .val (.int (2 : Int32)), .val (.ref b), .val (.int (2 : Int32)), .val (.int (2 : Int32)), .val (.int (1 : Int32)), .val (.int v1)]) rfl k) ?_
  show own_Gl _ _ _ _ _ _ _ (T10.setTop (mkF m 38 #[.val (.ref a), .val (.int (2 : Int32)), .val (.ref b), .val (.int (2 : Int32)), .val (.int (2 : Int32)), .val (.int (1 : Int32)), .val (.int v1)] []))
  refine own_st (fun _ k => XS.iinc X10.here hx rfl (hb hby own_d_jdk_52_method_21_code_38) rfl (l' := #[.val (.ref a), .val (.int (2 : Int32)), .val (.ref b), .val (.int (2 : Int32)), .val (.int (2 : Int32)), .val (.int (2 : Int32)), .val (.int v1)]) rfl k) ?_
  show own_Gl _ _ _ _ _ _ _ (T10.setTop (mkF m 41 #[.val (.ref a), .val (.int (2 : Int32)), .val (.ref b), .val (.int (2 : Int32)), .val (.int (2 : Int32)), .val (.int (2 : Int32)), .val (.int v1)] []))
  refine own_st (fun _ k => XS.goto X10.here hx rfl (pc0 := 41) (pc' := 3) rfl (hb hby own_d_jdk_52_method_21_code_41) (by decide) (by decide) k) ?_
  show own_Gl _ _ _ _ _ _ _ (T10.setTop (mkF m 3 #[.val (.ref a), .val (.int (2 : Int32)), .val (.ref b), .val (.int (2 : Int32)), .val (.int (2 : Int32)), .val (.int (2 : Int32)), .val (.int v1)] []))
  refine own_st (fun _ k => XS.iload X10.here hx rfl (hb hby own_d_jdk_52_method_21_code_3) rfl k) ?_
  show own_Gl _ _ _ _ _ _ _ (T10.setTop (mkF m 5 #[.val (.ref a), .val (.int (2 : Int32)), .val (.ref b), .val (.int (2 : Int32)), .val (.int (2 : Int32)), .val (.int (2 : Int32)), .val (.int v1)] [(.int (2 : Int32))]))
  refine own_st (fun _ k => XS.iload X10.here hx rfl (hb hby own_d_jdk_52_method_21_code_5) rfl k) ?_
  show own_Gl _ _ _ _ _ _ _ (T10.setTop (mkF m 7 #[.val (.ref a), .val (.int (2 : Int32)), .val (.ref b), .val (.int (2 : Int32)), .val (.int (2 : Int32)), .val (.int (2 : Int32)), .val (.int v1)] [(.int (2 : Int32)), (.int (2 : Int32))]))
  have hd12 : ¬ ((2 : Int32) < (2 : Int32)) := (by decide)
  refine own_st (fun _ k => XS.icmpYes X10.here hx rfl (pc0 := 7) (pc' := 44) rfl (hb hby own_d_jdk_52_method_21_code_7) rfl (flt hd12).2.1 (by decide) (by decide) k) ?_
  show own_Gl _ _ _ _ _ _ _ (T10.setTop (mkF m 44 #[.val (.ref a), .val (.int (2 : Int32)), .val (.ref b), .val (.int (2 : Int32)), .val (.int (2 : Int32)), .val (.int (2 : Int32)), .val (.int v1)] []))
  refine own_st (fun _ k => XS.iload X10.here hx rfl (hb hby own_d_jdk_52_method_21_code_44) rfl k) ?_
  show own_Gl _ _ _ _ _ _ _ (T10.setTop (mkF m 46 #[.val (.ref a), .val (.int (2 : Int32)), .val (.ref b), .val (.int (2 : Int32)), .val (.int (2 : Int32)), .val (.int (2 : Int32)), .val (.int v1)] [(.int (2 : Int32))]))
  have K13 : Keep h0 h10 [b] := (((Keep.refl h0 [b]).wr W4 (Or.inl (List.mem_of_getElem? (i := 0) rfl))).wr W10 (Or.inl (List.mem_of_getElem? (i := 0) rfl)))
  exact own_retI X10 hx hlk hret (hb hby own_d_jdk_52_method_21_code_46) e10 ⟨rfl, N10, K13, Vw10⟩ (by decide) (by decide)
theorem own_d_jdk_52_method_16_code_0 : decode jdk_52_method_16_code 0 = .ok (.iload_n 2, 1) := by decide +kernel
theorem own_d_jdk_52_method_16_code_1 : decode jdk_52_method_16_code 1 = .ok (.newarray .byte, 2) := by decide +kernel
theorem own_d_jdk_52_method_16_code_3 : decode jdk_52_method_16_code 3 = .ok (.astore_n 3, 1) := by decide +kernel
theorem own_d_jdk_52_method_16_code_4 : decode jdk_52_method_16_code 4 = .ok (.aload_n 0, 1) := by decide +kernel
theorem own_d_jdk_52_method_16_code_5 : decode jdk_52_method_16_code 5 = .ok (.iload_n 1, 1) := by decide +kernel
theorem own_d_jdk_52_method_16_code_6 : decode jdk_52_method_16_code 6 = .ok (.aload_n 3, 1) := by decide +kernel
theorem own_d_jdk_52_method_16_code_7 : decode jdk_52_method_16_code 7 = .ok (.iconst 0, 1) := by decide +kernel
theorem own_d_jdk_52_method_16_code_8 : decode jdk_52_method_16_code 8 = .ok (.iload_n 2, 1) := by decide +kernel
theorem own_d_jdk_52_method_16_code_9 : decode jdk_52_method_16_code 9 = .ok (.invokestatic 115, 3) := by decide +kernel
theorem own_pd196289288 : parseMethodDescriptor "([CI[BII)I" = some ⟨[(.array .char), .int, (.array .byte), .int, .int], some .int⟩ := by decide +kernel
theorem own_d_jdk_52_method_16_code_12 : decode jdk_52_method_16_code 12 = .ok (.istore 4, 2) := by decide +kernel
theorem own_d_jdk_52_method_16_code_14 : decode jdk_52_method_16_code 14 = .ok (.iload 4, 2) := by decide +kernel
theorem own_d_jdk_52_method_16_code_16 : decode jdk_52_method_16_code 16 = .ok (.iload_n 2, 1) := by decide +kernel
theorem own_d_jdk_52_method_16_code_17 : decode jdk_52_method_16_code 17 = .ok (.if_icmp .eq 40, 3) := by decide +kernel
theorem own_d_jdk_52_method_16_code_57 : decode jdk_52_method_16_code 57 = .ok (.aload_n 3, 1) := by decide +kernel
theorem own_d_jdk_52_method_16_code_58 : decode jdk_52_method_16_code 58 = .ok (.areturn, 1) := by decide +kernel
theorem own_ef_own_c3_2_2 (m : MethodId) (x0 : Addr) (x1 : Int32) (x2 : Int32) : entryFrame m #[(.ref x0), (.int x1), (.int x2)] 6 = mkF m 0 #[.val (.ref x0), .val (.int x1), .val (.int x2), .unset, .unset, .unset] [] := by first | (simp [entryFrame, mkF, argsToLocals, Value.category]; done) | rfl
def own_Q_own_c3_2_2 (Z : State) (a : Addr) (k : ClassId) (v0 : Int32) (v1 : Int32) (h0 : Heap) (n0 : Nat) (v : Option Value) (h : Heap) (L : List Loc) : Prop := ∃ (r : Addr) (kr : ClassId), (v = some (.ref r)) ∧ (Fr n0 L) ∧ (Keep h0 h []) ∧ (n0 ≤ r) ∧ (h0.size ≤ r) ∧ (Arv Z h r kr .byte (2 : Int32) [(.int (nar .byte (v0.toInt8.toInt32))), (.int (nar .byte (v1.toInt8.toInt32)))] (.int (0 : Int32)))
set_option maxRecDepth 65536 in
set_option maxHeartbeats 40000000 in
theorem own_c3_2_2 (l : Launch) (Z : State) (a0 : Array Value) (hw : ∀ d ∈ tables_1, d.before a0 Z = true) (ws : List Jvm.Cond) (a : Addr) (k : ClassId) (v0 : Int32) (v1 : Int32) (h0 : Heap) (n0 : Nat) (Z0 : n0 ≤ h0.size) (V_a : Arv Z h0 a k .char (2 : Int32) [(.int v0), (.int v1)] (.int (0 : Int32))) (hle0 : ¬ ((255 : Int32) < v0)) (hle1 : ¬ ((255 : Int32) < v1)) :
    MetFree l (⟨"java/lang/StringUTF16", "compress", "([CII)[B"⟩ : MethodName) (head1 (Jvm.Cond.code (⟨"java/lang/StringUTF16", "compress", "([CII)[B"⟩ : MethodName) jdk_52_method_16_code 6 (some (.array .byte)) :: ws) ({ frames := 1, cells := 1, slots := 2, locals := 18 } : Room)) (fun xa xU => xa = #[(.ref a), (.int (0 : Int32)), (.int (2 : Int32))] ∧ Z.Warmed39 xU.vm ∧ xU.heap = h0) (fun _ _ _ _ _ => True) (fun _ xU xo xV => ∃ v L, xo = .returned v ∧ own_Q_own_c3_2_2 Z a k v0 v1 h0 n0 v xV.heap L ∧ FrameEnd xU xo xV L ({ frames := 1, cells := 1, slots := 2, locals := 18 } : Room).cells ({ frames := 1, cells := 1, slots := 2, locals := 18 } : Room).slots) := by
  refine MetFree.of_bodySF (plainFor_of_name own_pn730740715) hisR ?_
  intro p e s m args below meth c s₁ Bd hml0 hP hK
  obtain ⟨rfl, hZ, hh⟩ := hP
  have hx := Bd.exec
  have hby := Bd.bytes
  have hlk := Bd.notSynchronized
  have hret := Bd.returns
  have hml : c.maxLocals = 6 := hml0
  have hown : s.vm.findClass "java/lang/StringUTF16" = some m.cls := findClass_of_methodNamed Bd.named
  have hnm := (name_of_methodNamed Bd.named Bd.method).1
  have X0 : Stand p l e ({ frames := 1, cells := 1, slots := 2, locals := 18 } : Room) s m #[(.ref a), (.int (0 : Int32)), (.int (2 : Int32))] below meth c s₁ [] 0 0 := Stand.of_body Bd
  have e0 : s₁.heap = h0 := by rw [← hh, Bd.state]; rfl
  have N0 := Fr.nil n0
  show own_Gl p e below s (own_Q_own_c3_2_2 Z a k v0 v1 h0 n0) ({ frames := 1, cells := 1, slots := 2, locals := 18 } : Room).cells ({ frames := 1, cells := 1, slots := 2, locals := 18 } : Room).slots _
  refine own_cast (own_ef_own_c3_2_2 m a (0 : Int32) (2 : Int32)) ?_
  show own_Gl _ _ _ _ _ _ _ (s₁.setTop (mkF m 0 #[.val (.ref a), .val (.int (0 : Int32)), .val (.int (2 : Int32)), .unset, .unset, .unset] []))
  refine own_st (fun _ k => XS.iloadN X0.here hx rfl (hb hby own_d_jdk_52_method_16_code_0) rfl k) ?_
  show own_Gl _ _ _ _ _ _ _ (s₁.setTop (mkF m 1 #[.val (.ref a), .val (.int (0 : Int32)), .val (.int (2 : Int32)), .unset, .unset, .unset] [(.int (2 : Int32))]))
  obtain ⟨T1, h1, k1, X1, e1, E1, A1, st1⟩ := newP X0 hx hZ (hw _ (List.mem_of_getElem? (i := 20) rfl)) e0 (g := (mkF m 1 #[.val (.ref a), .val (.int (0 : Int32)), .val (.int (2 : Int32)), .unset, .unset, .unset] [(.int (2 : Int32))])) rfl (hb hby own_d_jdk_52_method_16_code_1) rfl (by decide) (cap := 2) (by decide) (by decide) (by decide) (by decide)
  obtain ⟨b1, gb1⟩ : ∃ z, z = h0.size := ⟨_, rfl⟩
  rw [← gb1] at A1 st1
  refine own_st st1 ?_
  have Zs2 : n0 ≤ h1.size := Nat.le_trans Z0 E1.1
  have g_b1 : n0 ≤ b1 := Nat.le_trans Z0 (Nat.le_of_eq gb1.symm)
  have gh_b1 : h0.size ≤ b1 := Nat.le_trans (Keep.refl h0 []).1 (Nat.le_of_eq gb1.symm)
  have ne_a_b1 : a ≠ b1 := Nat.ne_of_lt (Nat.lt_of_lt_of_le V_a.lt (Nat.le_of_eq gb1.symm))
  have V_b1 : Arv Z h1 b1 k1 .byte (2 : Int32) [(.int (0 : Int32)), (.int (0 : Int32))] (.int (0 : Int32)) := (Arv.new A1 (by decide)).pad (pad_rep [] (.int (0 : Int32)) 2)
  show own_Gl _ _ _ _ _ _ _ (T1.setTop (mkF m 3 #[.val (.ref a), .val (.int (0 : Int32)), .val (.int (2 : Int32)), .unset, .unset, .unset] [(.ref b1)]))
  refine own_st (fun _ k => XS.astoreN X1.here hx rfl (hb hby own_d_jdk_52_method_16_code_3) rfl rfl (l' := #[.val (.ref a), .val (.int (0 : Int32)), .val (.int (2 : Int32)), .val (.ref b1), .unset, .unset]) rfl k) ?_
  show own_Gl _ _ _ _ _ _ _ (T1.setTop (mkF m 4 #[.val (.ref a), .val (.int (0 : Int32)), .val (.int (2 : Int32)), .val (.ref b1), .unset, .unset] []))
  refine own_st (fun _ k => XS.aloadN X1.here hx rfl (hb hby own_d_jdk_52_method_16_code_4) rfl rfl k) ?_
  show own_Gl _ _ _ _ _ _ _ (T1.setTop (mkF m 5 #[.val (.ref a), .val (.int (0 : Int32)), .val (.int (2 : Int32)), .val (.ref b1), .unset, .unset] [(.ref a)]))
  refine own_st (fun _ k => XS.iloadN X1.here hx rfl (hb hby own_d_jdk_52_method_16_code_5) rfl k) ?_
  show own_Gl _ _ _ _ _ _ _ (T1.setTop (mkF m 6 #[.val (.ref a), .val (.int (0 : Int32)), .val (.int (2 : Int32)), .val (.ref b1), .unset, .unset] [(.int (0 : Int32)), (.ref a)]))
  refine own_st (fun _ k => XS.aloadN X1.here hx rfl (hb hby own_d_jdk_52_method_16_code_6) rfl rfl k) ?_
  show own_Gl _ _ _ _ _ _ _ (T1.setTop (mkF m 7 #[.val (.ref a), .val (.int (0 : Int32)), .val (.int (2 : Int32)), .val (.ref b1), .unset, .unset] [(.ref b1), (.int (0 : Int32)), (.ref a)]))
  refine own_st (fun _ k => XS.iconst X1.here hx rfl (hb hby own_d_jdk_52_method_16_code_7) k) ?_
  show own_Gl _ _ _ _ _ _ _ (T1.setTop (mkF m 8 #[.val (.ref a), .val (.int (0 : Int32)), .val (.int (2 : Int32)), .val (.ref b1), .unset, .unset] [(.int (0 : Int32)), (.ref b1), (.int (0 : Int32)), (.ref a)]))
  refine own_st (fun _ k => XS.iloadN X1.here hx rfl (hb hby own_d_jdk_52_method_16_code_8) rfl k) ?_
  show own_Gl _ _ _ _ _ _ _ (T1.setTop (mkF m 9 #[.val (.ref a), .val (.int (0 : Int32)), .val (.int (2 : Int32)), .val (.ref b1), .unset, .unset] [(.int (2 : Int32)), (.int (0 : Int32)), (.ref b1), (.int (0 : Int32)), (.ref a)]))
  have f5 := (V_a.ext E1)
  obtain ⟨_, _, ⟨T4, L4, k4, n4⟩, -, X4, ⟨Lc4, hQ4, l4, y4, z4⟩, st4⟩ := Jvm.LawKit.callS X1 hx (y := (⟨"java/lang/StringUTF16", "compress", "([CI[BII)I"⟩ : MethodName)) hown (mvT hZ (hw _ (List.mem_of_getElem? (i := 21) rfl))) (mvT hZ (hw _ (List.mem_of_getElem? (i := 22) rfl))) (mvT hZ (hw _ (List.mem_of_getElem? (i := 18) rfl))) (mvT hZ (hw _ (List.mem_of_getElem? (i := 23) rfl))) (by decide) (backOf (W := 0) (own_c5_2_2 l Z a0 hw [] a b1 k k1 v0 v1 h1 n0 Zs2 f5 V_b1 g_b1 ne_a_b1 hle0 hle1) hZ (hw _ (List.mem_of_getElem? (i := 23) rfl)) (hw _ (List.mem_of_getElem? (i := 18) rfl)) (by decide) (by decide)) (g := (mkF m 9 #[.val (.ref a), .val (.int (0 : Int32)), .val (.int (2 : Int32)), .val (.ref b1), .unset, .unset] [(.int (2 : Int32)), (.int (0 : Int32)), (.ref b1), (.int (0 : Int32)), (.ref a)])) rfl (by rw [hml]; rfl) (argsL := [(.ref a), (.int (0 : Int32)), (.ref b1), (.int (0 : Int32)), (.int (2 : Int32))]) (rest := []) (lenOf own_pd196289288 rfl) rfl (by show 2 * 0 + _ ≤ _; exact Nat.le_of_eq rfl) (hb hby own_d_jdk_52_method_16_code_9) (fun _ _ => ⟨rfl, e1, (by decide : 1 + 0 ≤ ({ frames := 1, cells := 1, slots := 2, locals := 18 } : Room).cells), (by decide : 2 + 0 ≤ ({ frames := 1, cells := 1, slots := 2, locals := 18 } : Room).slots)⟩)
  dsimp only [Pt.U, Pt.locs, Pt.cells, Pt.slots] at X4 l4 y4 z4 st4 hQ4
  subst l4 y4 z4
  obtain ⟨hh4, eh04⟩ : ∃ z, T4.heap = z := ⟨_, rfl⟩
  rw [eh04] at hQ4
  obtain ⟨rfl, Nq4, Kq4, P4_0⟩ := hQ4
  have N4 := Fr.app N0 Nq4
  refine own_st st4 ?_
  have Zs6 : n0 ≤ hh4.size := Nat.le_trans Zs2 Kq4.1
  show own_Gl _ _ _ _ _ _ _ (T4.setTop (mkF m 12 #[.val (.ref a), .val (.int (0 : Int32)), .val (.int (2 : Int32)), .val (.ref b1), .unset, .unset] [(.int (2 : Int32))]))
  refine own_st (fun _ k => XS.istore X4.here hx rfl (hb hby own_d_jdk_52_method_16_code_12) rfl (l' := #[.val (.ref a), .val (.int (0 : Int32)), .val (.int (2 : Int32)), .val (.ref b1), .val (.int (2 : Int32)), .unset]) rfl k) ?_
  show own_Gl _ _ _ _ _ _ _ (T4.setTop (mkF m 14 #[.val (.ref a), .val (.int (0 : Int32)), .val (.int (2 : Int32)), .val (.ref b1), .val (.int (2 : Int32)), .unset] []))
  refine own_st (fun _ k => XS.iload X4.here hx rfl (hb hby own_d_jdk_52_method_16_code_14) rfl k) ?_
  show own_Gl _ _ _ _ _ _ _ (T4.setTop (mkF m 16 #[.val (.ref a), .val (.int (0 : Int32)), .val (.int (2 : Int32)), .val (.ref b1), .val (.int (2 : Int32)), .unset] [(.int (2 : Int32))]))
  refine own_st (fun _ k => XS.iloadN X4.here hx rfl (hb hby own_d_jdk_52_method_16_code_16) rfl k) ?_
  show own_Gl _ _ _ _ _ _ _ (T4.setTop (mkF m 17 #[.val (.ref a), .val (.int (0 : Int32)), .val (.int (2 : Int32)), .val (.ref b1), .val (.int (2 : Int32)), .unset] [(.int (2 : Int32)), (.int (2 : Int32))]))
  have hd7 : (2 : Int32) = (2 : Int32) := (by decide)
  refine own_st (fun _ k => XS.icmpYes X4.here hx rfl (pc0 := 17) (pc' := 57) rfl (hb hby own_d_jdk_52_method_16_code_17) rfl (teq hd7).1 (by decide) (by decide) k) ?_
  show own_Gl _ _ _ _ _ _ _ (T4.setTop (mkF m 57 #[.val (.ref a), .val (.int (0 : Int32)), .val (.int (2 : Int32)), .val (.ref b1), .val (.int (2 : Int32)), .unset] []))
  refine own_st (fun _ k => XS.aloadN X4.here hx rfl (hb hby own_d_jdk_52_method_16_code_57) rfl rfl k) ?_
  show own_Gl _ _ _ _ _ _ _ (T4.setTop (mkF m 58 #[.val (.ref a), .val (.int (0 : Int32)), .val (.int (2 : Int32)), .val (.ref b1), .val (.int (2 : Int32)), .unset] [(.ref b1)]))
  have K8 : Keep h0 hh4 [] := (((Keep.refl h0 []).ext E1).trans Kq4 (allS (Or.inr gh_b1) all0))
  exact own_retA X4 hx hlk hret rfl rfl rfl (hb hby own_d_jdk_52_method_16_code_58) eh04 ⟨b1, k1, rfl, N4, K8, g_b1, gh_b1, P4_0⟩ (by decide) (by decide)
theorem own_d_jdk_52_method_15_code_0 : decode jdk_52_method_15_code 0 = .ok (.iload_n 1, 1) := by decide +kernel
theorem own_d_jdk_52_method_15_code_1 : decode jdk_52_method_15_code 1 = .ok (.aload_n 0, 1) := by decide +kernel
theorem own_d_jdk_52_method_15_code_2 : decode jdk_52_method_15_code 2 = .ok (.arraylength, 1) := by decide +kernel
theorem own_d_jdk_52_method_15_code_3 : decode jdk_52_method_15_code 3 = .ok (.isub, 1) := by decide +kernel
theorem own_d_jdk_52_method_15_code_4 : decode jdk_52_method_15_code 4 = .ok (.bipush 31, 2) := by decide +kernel
theorem own_d_jdk_52_method_15_code_6 : decode jdk_52_method_15_code 6 = .ok (.iushr, 1) := by decide +kernel
theorem own_d_jdk_52_method_15_code_7 : decode jdk_52_method_15_code 7 = .ok (.i2b, 1) := by decide +kernel
theorem own_d_jdk_52_method_15_code_8 : decode jdk_52_method_15_code 8 = .ok (.ireturn, 1) := by decide +kernel
theorem own_ef_own_cf_2_2 (m : MethodId) (x0 : Addr) (x1 : Int32) : entryFrame m #[(.ref x0), (.int x1)] 2 = mkF m 0 #[.val (.ref x0), .val (.int x1)] [] := by first | (simp [entryFrame, mkF, argsToLocals, Value.category]; done) | rfl
def own_Q_own_cf_2_2 (Z : State) (a : Addr) (k : ClassId) (w : List Value) (h0 : Heap) (n0 : Nat) (v : Option Value) (h : Heap) (L : List Loc) : Prop := (v = some (.int (0 : Int32))) ∧ (Fr n0 L) ∧ (h = h0)
set_option maxRecDepth 65536 in
set_option maxHeartbeats 40000000 in
theorem own_cf_2_2 (l : Launch) (Z : State) (a0 : Array Value) (hw : ∀ d ∈ tables_1, d.before a0 Z = true) (ws : List Jvm.Cond) (a : Addr) (k : ClassId) (w : List Value) (h0 : Heap) (n0 : Nat) (Z0 : n0 ≤ h0.size) (V_a : Arv Z h0 a k .byte (2 : Int32) w (.int (0 : Int32))) :
    MetFree l (⟨"java/lang/StringUTF16", "coderFromArrayLen", "([BI)B"⟩ : MethodName) (head1 (Jvm.Cond.code (⟨"java/lang/StringUTF16", "coderFromArrayLen", "([BI)B"⟩ : MethodName) jdk_52_method_15_code 2 (some .byte) :: ws) ({ frames := 0, cells := 0, slots := 0, locals := 0 } : Room)) (fun xa xU => xa = #[(.ref a), (.int (2 : Int32))] ∧ Z.Warmed39 xU.vm ∧ xU.heap = h0) (fun _ _ _ _ _ => True) (fun _ xU xo xV => ∃ v L, xo = .returned v ∧ own_Q_own_cf_2_2 Z a k w h0 n0 v xV.heap L ∧ FrameEnd xU xo xV L ({ frames := 0, cells := 0, slots := 0, locals := 0 } : Room).cells ({ frames := 0, cells := 0, slots := 0, locals := 0 } : Room).slots) := by
  refine MetFree.of_bodySF (plainFor_of_name own_pn730740715) hisR ?_
  intro p e s m args below meth c s₁ Bd hml0 hP hK
  obtain ⟨rfl, hZ, hh⟩ := hP
  have hx := Bd.exec
  have hby := Bd.bytes
  have hlk := Bd.notSynchronized
  have hret := Bd.returns
  have hml : c.maxLocals = 2 := hml0
  have hown : s.vm.findClass "java/lang/StringUTF16" = some m.cls := findClass_of_methodNamed Bd.named
  have hnm := (name_of_methodNamed Bd.named Bd.method).1
  have X0 : Stand p l e ({ frames := 0, cells := 0, slots := 0, locals := 0 } : Room) s m #[(.ref a), (.int (2 : Int32))] below meth c s₁ [] 0 0 := Stand.of_body Bd
  have e0 : s₁.heap = h0 := by rw [← hh, Bd.state]; rfl
  have N0 := Fr.nil n0
  show own_Gl p e below s (own_Q_own_cf_2_2 Z a k w h0 n0) ({ frames := 0, cells := 0, slots := 0, locals := 0 } : Room).cells ({ frames := 0, cells := 0, slots := 0, locals := 0 } : Room).slots _
  refine own_cast (own_ef_own_cf_2_2 m a (2 : Int32)) ?_
  show own_Gl _ _ _ _ _ _ _ (s₁.setTop (mkF m 0 #[.val (.ref a), .val (.int (2 : Int32))] []))
  refine own_st (fun _ k => XS.iloadN X0.here hx rfl (hb hby own_d_jdk_52_method_15_code_0) rfl k) ?_
  show own_Gl _ _ _ _ _ _ _ (s₁.setTop (mkF m 1 #[.val (.ref a), .val (.int (2 : Int32))] [(.int (2 : Int32))]))
  refine own_st (fun _ k => XS.aloadN X0.here hx rfl (hb hby own_d_jdk_52_method_15_code_1) rfl rfl k) ?_
  show own_Gl _ _ _ _ _ _ _ (s₁.setTop (mkF m 2 #[.val (.ref a), .val (.int (2 : Int32))] [(.ref a), (.int (2 : Int32))]))
  obtain ⟨cl1, Ar1, qq1, Ss1, Nn1, Hh1, Gg1⟩ := id V_a
  refine own_st (X0.arraylength hx (by rw [e0]; exact Ar1.1) (State.isArrayOf_alike hZ.alike Ar1.2.1) (g := (mkF m 2 #[.val (.ref a), .val (.int (2 : Int32))] [(.ref a), (.int (2 : Int32))])) rfl rfl (hb hby own_d_jdk_52_method_15_code_2)) ?_
  rw [len_of Ss1 Nn1]
  show own_Gl _ _ _ _ _ _ _ (s₁.setTop (mkF m 3 #[.val (.ref a), .val (.int (2 : Int32))] [(.int (2 : Int32)), (.int (2 : Int32))]))
  refine own_st (fun _ k => XS.isub X0.here hx rfl (hb hby own_d_jdk_52_method_15_code_3) rfl k) ?_
  show own_Gl _ _ _ _ _ _ _ (s₁.setTop (mkF m 4 #[.val (.ref a), .val (.int (2 : Int32))] [(.int (0 : Int32))]))
  refine own_st (fun _ k => XS.bipush X0.here hx rfl (hb hby own_d_jdk_52_method_15_code_4) k) ?_
  show own_Gl _ _ _ _ _ _ _ (s₁.setTop (mkF m 6 #[.val (.ref a), .val (.int (2 : Int32))] [(.int (31 : Int32)), (.int (0 : Int32))]))
  refine own_st (fun _ k => XS.iushr X0.here hx rfl (hb hby own_d_jdk_52_method_15_code_6) rfl k) ?_
  show own_Gl _ _ _ _ _ _ _ (s₁.setTop (mkF m 7 #[.val (.ref a), .val (.int (2 : Int32))] [(.int (((0 : Int32).toUInt32 >>> ((31 : Int32) &&& 31).toUInt32).toInt32))]))
  refine own_st (fun _ k => XS.i2b X0.here hx rfl (hb hby own_d_jdk_52_method_15_code_7) rfl k) ?_
  show own_Gl _ _ _ _ _ _ _ (s₁.setTop (mkF m 8 #[.val (.ref a), .val (.int (2 : Int32))] [(.int ((((0 : Int32).toUInt32 >>> ((31 : Int32) &&& 31).toUInt32).toInt32).toInt8.toInt32))]))
  exact own_retN X0 hx hlk (t := .byte) hret (by simp) (hb hby own_d_jdk_52_method_15_code_8) e0 ⟨rfl, N0, rfl⟩ (by decide) (by decide)
theorem own_d_jdk_42_method_149_code_0 : decode jdk_42_method_149_code 0 = .ok (.aload_n 0, 1) := by decide +kernel
theorem own_d_jdk_42_method_149_code_1 : decode jdk_42_method_149_code 1 = .ok (.invokespecial 1, 3) := by decide +kernel
theorem own_d_jdk_42_method_149_code_4 : decode jdk_42_method_149_code 4 = .ok (.iload_n 3, 1) := by decide +kernel
theorem own_d_jdk_42_method_149_code_5 : decode jdk_42_method_149_code 5 = .ok (.ifCond .ne 22, 3) := by decide +kernel
theorem own_d_jdk_42_method_149_code_27 : decode jdk_42_method_149_code 27 = .ok (.getstatic 38, 3) := by decide +kernel
theorem own_d_jdk_42_method_149_code_30 : decode jdk_42_method_149_code 30 = .ok (.ifCond .eq 28, 3) := by decide +kernel
theorem own_d_jdk_42_method_149_code_33 : decode jdk_42_method_149_code 33 = .ok (.aload_n 1, 1) := by decide +kernel
theorem own_d_jdk_42_method_149_code_34 : decode jdk_42_method_149_code 34 = .ok (.iload_n 2, 1) := by decide +kernel
theorem own_d_jdk_42_method_149_code_35 : decode jdk_42_method_149_code 35 = .ok (.iload_n 3, 1) := by decide +kernel
theorem own_d_jdk_42_method_149_code_36 : decode jdk_42_method_149_code 36 = .ok (.invokestatic 177, 3) := by decide +kernel
theorem own_pd461289092 : parseMethodDescriptor "([CII)[B" = some ⟨[(.array .char), .int, .int], some (.array .byte)⟩ := by decide +kernel
theorem own_d_jdk_42_method_149_code_39 : decode jdk_42_method_149_code 39 = .ok (.astore 5, 2) := by decide +kernel
theorem own_d_jdk_42_method_149_code_41 : decode jdk_42_method_149_code 41 = .ok (.aload_n 0, 1) := by decide +kernel
theorem own_d_jdk_42_method_149_code_42 : decode jdk_42_method_149_code 42 = .ok (.aload 5, 2) := by decide +kernel
theorem own_d_jdk_42_method_149_code_44 : decode jdk_42_method_149_code 44 = .ok (.iload_n 3, 1) := by decide +kernel
theorem own_d_jdk_42_method_149_code_45 : decode jdk_42_method_149_code 45 = .ok (.invokestatic 47, 3) := by decide +kernel
theorem own_pd128711047 : parseMethodDescriptor "([BI)B" = some ⟨[(.array .byte), .int], some .byte⟩ := by decide +kernel
theorem own_d_jdk_42_method_149_code_48 : decode jdk_42_method_149_code 48 = .ok (.putfield 15, 3) := by decide +kernel
theorem own_d_jdk_42_method_149_code_51 : decode jdk_42_method_149_code 51 = .ok (.aload_n 0, 1) := by decide +kernel
theorem own_d_jdk_42_method_149_code_52 : decode jdk_42_method_149_code 52 = .ok (.aload 5, 2) := by decide +kernel
theorem own_d_jdk_42_method_149_code_54 : decode jdk_42_method_149_code 54 = .ok (.putfield 9, 3) := by decide +kernel
theorem own_d_jdk_42_method_149_code_57 : decode jdk_42_method_149_code 57 = .ok (.return_, 1) := by decide +kernel
theorem own_ef_own_i4_2_2 (m : MethodId) (x0 : Addr) (x1 : Addr) (x2 : Int32) (x3 : Int32) : entryFrame m #[(.ref x0), (.ref x1), (.int x2), (.int x3), .null] 6 = mkF m 0 #[.val (.ref x0), .val (.ref x1), .val (.int x2), .val (.int x3), .val .null, .unset] [] := by first | (simp [entryFrame, mkF, argsToLocals, Value.category]; done) | rfl
def own_Q_own_i4_2_2 (Z : State) (a : Addr) (b : Addr) (k : ClassId) (v0 : Int32) (v1 : Int32) (cs : Int32) (h0 : Heap) (n0 : Nat) (v : Option Value) (h : Heap) (L : List Loc) : Prop := ∃ (r : Addr) (kr : ClassId), (v = none) ∧ (Fr n0 L) ∧ (Keep h0 h [a]) ∧ (n0 ≤ r) ∧ (h0.size ≤ r) ∧ (Arv Z h r kr .byte (2 : Int32) [(.int (nar .byte (v0.toInt8.toInt32))), (.int (nar .byte (v1.toInt8.toInt32)))] (.int (0 : Int32))) ∧ (Fld Z h a "java/lang/String" "value" "[B" (.ref r)) ∧ (Fld Z h a "java/lang/String" "coder" "B" (.int (0 : Int32)))
theorem own_pn853443214 : plainName "java/lang/String" = true := by first | (simp [plainName, overriddenIn]; done) | decide +kernel
set_option maxRecDepth 65536 in
set_option maxHeartbeats 40000000 in
theorem own_i4_2_2 (l : Launch) (Z : State) (a0 : Array Value) (hw : ∀ d ∈ tables_1, d.before a0 Z = true) (ws : List Jvm.Cond) (a : Addr) (b : Addr) (k : ClassId) (v0 : Int32) (v1 : Int32) (cs : Int32) (h0 : Heap) (n0 : Nat) (Z0 : n0 ≤ h0.size) (E_a : Exa Z h0 a "java/lang/String") (F_a_value : Fld Z h0 a "java/lang/String" "value" "[B" .null) (F_a_coder : Fld Z h0 a "java/lang/String" "coder" "B" (.int (0 : Int32))) (g_a : n0 ≤ a) (ne_a_b : a ≠ b) (V_b : Arv Z h0 b k .char (2 : Int32) [(.int v0), (.int v1)] (.int (0 : Int32))) (hle0 : ¬ ((255 : Int32) < v0)) (hle1 : ¬ ((255 : Int32) < v1)) (S_COMPACT_STRINGS : Sta Z h0 "java/lang/String" "COMPACT_STRINGS" "Z" (.int cs)) (hcs : ¬ (cs = (0 : Int32))) :
    MetFree l (⟨"java/lang/String", "<init>", "([CIILjava/lang/Void;)V"⟩ : MethodName) (head1 (Jvm.Cond.code (⟨"java/lang/String", "<init>", "([CIILjava/lang/Void;)V"⟩ : MethodName) jdk_42_method_149_code 6 none :: ws) ({ frames := 2, cells := 1, slots := 2, locals := 35 } : Room)) (fun xa xU => xa = #[(.ref a), (.ref b), (.int (0 : Int32)), (.int (2 : Int32)), .null] ∧ Z.Warmed39 xU.vm ∧ xU.heap = h0) (fun _ _ _ _ _ => True) (fun _ xU xo xV => ∃ v L, xo = .returned v ∧ own_Q_own_i4_2_2 Z a b k v0 v1 cs h0 n0 v xV.heap L ∧ FrameEnd xU xo xV L ({ frames := 2, cells := 1, slots := 2, locals := 35 } : Room).cells ({ frames := 2, cells := 1, slots := 2, locals := 35 } : Room).slots) := by
  refine MetFree.of_bodySF (plainFor_of_name own_pn853443214) hisR ?_
  intro p e s m args below meth c s₁ Bd hml0 hP hK
  obtain ⟨rfl, hZ, hh⟩ := hP
  have hx := Bd.exec
  have hby := Bd.bytes
  have hlk := Bd.notSynchronized
  have hret := Bd.returns
  have hml : c.maxLocals = 6 := hml0
  have hown : s.vm.findClass "java/lang/String" = some m.cls := findClass_of_methodNamed Bd.named
  have hnm := (name_of_methodNamed Bd.named Bd.method).1
  have X0 : Stand p l e ({ frames := 2, cells := 1, slots := 2, locals := 35 } : Room) s m #[(.ref a), (.ref b), (.int (0 : Int32)), (.int (2 : Int32)), .null] below meth c s₁ [] 0 0 := Stand.of_body Bd
  have e0 : s₁.heap = h0 := by rw [← hh, Bd.state]; rfl
  have N0 := Fr.nil n0
  show own_Gl p e below s (own_Q_own_i4_2_2 Z a b k v0 v1 cs h0 n0) ({ frames := 2, cells := 1, slots := 2, locals := 35 } : Room).cells ({ frames := 2, cells := 1, slots := 2, locals := 35 } : Room).slots _
  refine own_cast (own_ef_own_i4_2_2 m a b (0 : Int32) (2 : Int32)) ?_
  show own_Gl _ _ _ _ _ _ _ (s₁.setTop (mkF m 0 #[.val (.ref a), .val (.ref b), .val (.int (0 : Int32)), .val (.int (2 : Int32)), .val .null, .unset] []))
  refine own_st (fun _ k => XS.aloadN X0.here hx rfl (hb hby own_d_jdk_42_method_149_code_0) rfl rfl k) ?_
  show own_Gl _ _ _ _ _ _ _ (s₁.setTop (mkF m 1 #[.val (.ref a), .val (.ref b), .val (.int (0 : Int32)), .val (.int (2 : Int32)), .val .null, .unset] [(.ref a)]))
  obtain ⟨T1, X1, e1, st1⟩ := initO X0 hx hZ hown (hw _ (List.mem_of_getElem? (i := 12) rfl)) (hw _ (List.mem_of_getElem? (i := 13) rfl)) (hw _ (List.mem_of_getElem? (i := 14) rfl)) e0 (g := (mkF m 1 #[.val (.ref a), .val (.ref b), .val (.int (0 : Int32)), .val (.int (2 : Int32)), .val .null, .unset] [(.ref a)])) rfl (by rw [hml]; rfl) rfl (hb hby own_d_jdk_42_method_149_code_1) (by decide) (W := 0) (by show 2 * 0 + _ ≤ _; exact Nat.le_of_eq rfl) (by decide)
  refine own_st st1 ?_
  show own_Gl _ _ _ _ _ _ _ (T1.setTop (mkF m 4 #[.val (.ref a), .val (.ref b), .val (.int (0 : Int32)), .val (.int (2 : Int32)), .val .null, .unset] []))
  refine own_st (fun _ k => XS.iloadN X1.here hx rfl (hb hby own_d_jdk_42_method_149_code_4) rfl k) ?_
  show own_Gl _ _ _ _ _ _ _ (T1.setTop (mkF m 5 #[.val (.ref a), .val (.ref b), .val (.int (0 : Int32)), .val (.int (2 : Int32)), .val .null, .unset] [(.int (2 : Int32))]))
  have hd2 : ¬ ((2 : Int32) = (0 : Int32)) := (by decide)
  refine own_st (fun _ k => XS.ifYes X1.here hx rfl (pc0 := 5) (pc' := 27) rfl (hb hby own_d_jdk_42_method_149_code_5) rfl ((if0 _ _).trans (feq hd2).2) (by decide) (by decide) k) ?_
  show own_Gl _ _ _ _ _ _ _ (T1.setTop (mkF m 27 #[.val (.ref a), .val (.ref b), .val (.int (0 : Int32)), .val (.int (2 : Int32)), .val .null, .unset] []))
  obtain ⟨T3, X3, e3, st3⟩ := getS2 X1 hx hZ hown (host := "") (Or.inl (hw _ (List.mem_of_getElem? (i := 15) rfl))) Via.refl e1 S_COMPACT_STRINGS (g := (mkF m 27 #[.val (.ref a), .val (.ref b), .val (.int (0 : Int32)), .val (.int (2 : Int32)), .val .null, .unset] [])) rfl (hb hby own_d_jdk_42_method_149_code_27)
  refine own_st st3 ?_
  show own_Gl _ _ _ _ _ _ _ (T3.setTop (mkF m 30 #[.val (.ref a), .val (.ref b), .val (.int (0 : Int32)), .val (.int (2 : Int32)), .val .null, .unset] [(.int cs)]))
  have hd4 : ¬ (cs = (0 : Int32)) := hcs
  refine own_st (fun _ k => XS.ifNo X3.here hx rfl (hb hby own_d_jdk_42_method_149_code_30) rfl ((if0 _ _).trans (feq hd4).1) k) ?_
  show own_Gl _ _ _ _ _ _ _ (T3.setTop (mkF m 33 #[.val (.ref a), .val (.ref b), .val (.int (0 : Int32)), .val (.int (2 : Int32)), .val .null, .unset] []))
  refine own_st (fun _ k => XS.aloadN X3.here hx rfl (hb hby own_d_jdk_42_method_149_code_33) rfl rfl k) ?_
  show own_Gl _ _ _ _ _ _ _ (T3.setTop (mkF m 34 #[.val (.ref a), .val (.ref b), .val (.int (0 : Int32)), .val (.int (2 : Int32)), .val .null, .unset] [(.ref b)]))
  refine own_st (fun _ k => XS.iloadN X3.here hx rfl (hb hby own_d_jdk_42_method_149_code_34) rfl k) ?_
  show own_Gl _ _ _ _ _ _ _ (T3.setTop (mkF m 35 #[.val (.ref a), .val (.ref b), .val (.int (0 : Int32)), .val (.int (2 : Int32)), .val .null, .unset] [(.int (0 : Int32)), (.ref b)]))
  refine own_st (fun _ k => XS.iloadN X3.here hx rfl (hb hby own_d_jdk_42_method_149_code_35) rfl k) ?_
  show own_Gl _ _ _ _ _ _ _ (T3.setTop (mkF m 36 #[.val (.ref a), .val (.ref b), .val (.int (0 : Int32)), .val (.int (2 : Int32)), .val .null, .unset] [(.int (2 : Int32)), (.int (0 : Int32)), (.ref b)]))
  obtain ⟨_, _, ⟨T5, L5, k5, n5⟩, -, X5, ⟨Lc5, hQ5, l5, y5, z5⟩, st5⟩ := Jvm.LawKit.callS X3 hx (y := (⟨"java/lang/StringUTF16", "compress", "([CII)[B"⟩ : MethodName)) hown (mvT hZ (hw _ (List.mem_of_getElem? (i := 16) rfl))) (mvT hZ (hw _ (List.mem_of_getElem? (i := 17) rfl))) (mvT hZ (hw _ (List.mem_of_getElem? (i := 18) rfl))) (mvT hZ (hw _ (List.mem_of_getElem? (i := 19) rfl))) (by decide) (backOf (W := 0) (own_c3_2_2 l Z a0 hw [] b k v0 v1 h0 n0 Z0 V_b hle0 hle1) hZ (hw _ (List.mem_of_getElem? (i := 19) rfl)) (hw _ (List.mem_of_getElem? (i := 18) rfl)) (by decide) (by decide)) (g := (mkF m 36 #[.val (.ref a), .val (.ref b), .val (.int (0 : Int32)), .val (.int (2 : Int32)), .val .null, .unset] [(.int (2 : Int32)), (.int (0 : Int32)), (.ref b)])) rfl (by rw [hml]; rfl) (argsL := [(.ref b), (.int (0 : Int32)), (.int (2 : Int32))]) (rest := []) (lenOf own_pd461289092 rfl) rfl (by show 2 * 0 + _ ≤ _; exact Nat.le_of_eq rfl) (hb hby own_d_jdk_42_method_149_code_36) (fun _ _ => ⟨rfl, e3, (by decide : 0 + 1 ≤ ({ frames := 2, cells := 1, slots := 2, locals := 35 } : Room).cells), (by decide : 0 + 2 ≤ ({ frames := 2, cells := 1, slots := 2, locals := 35 } : Room).slots)⟩)
  dsimp only [Pt.U, Pt.locs, Pt.cells, Pt.slots] at X5 l5 y5 z5 st5 hQ5
  subst l5 y5 z5
  obtain ⟨hh5, eh05⟩ : ∃ z, T5.heap = z := ⟨_, rfl⟩
  rw [eh05] at hQ5
  obtain ⟨r_5, kr_5, rfl, Nq5, Kq5, P5_0, P5_1, P5_2⟩ := hQ5
  have N5 := Fr.app N0 Nq5
  refine own_st st5 ?_
  have Zs6 : n0 ≤ hh5.size := Nat.le_trans Z0 Kq5.1
  have gh_r_5 : h0.size ≤ r_5 := Nat.le_trans (Keep.refl h0 [a]).1 P5_1
  have ne_a_r_5 : a ≠ r_5 := Nat.ne_of_lt (Nat.lt_of_lt_of_le E_a.lt P5_1)
  have ne_b_r_5 : b ≠ r_5 := Nat.ne_of_lt (Nat.lt_of_lt_of_le V_b.lt P5_1)
  show own_Gl _ _ _ _ _ _ _ (T5.setTop (mkF m 39 #[.val (.ref a), .val (.ref b), .val (.int (0 : Int32)), .val (.int (2 : Int32)), .val .null, .unset] [(.ref r_5)]))
  refine own_st (fun _ k => XS.astore X5.here hx rfl (hb hby own_d_jdk_42_method_149_code_39) rfl rfl (l' := #[.val (.ref a), .val (.ref b), .val (.int (0 : Int32)), .val (.int (2 : Int32)), .val .null, .val (.ref r_5)]) rfl k) ?_
  show own_Gl _ _ _ _ _ _ _ (T5.setTop (mkF m 41 #[.val (.ref a), .val (.ref b), .val (.int (0 : Int32)), .val (.int (2 : Int32)), .val .null, .val (.ref r_5)] []))
  refine own_st (fun _ k => XS.aloadN X5.here hx rfl (hb hby own_d_jdk_42_method_149_code_41) rfl rfl k) ?_
  show own_Gl _ _ _ _ _ _ _ (T5.setTop (mkF m 42 #[.val (.ref a), .val (.ref b), .val (.int (0 : Int32)), .val (.int (2 : Int32)), .val .null, .val (.ref r_5)] [(.ref a)]))
  refine own_st (fun _ k => XS.aload X5.here hx rfl (hb hby own_d_jdk_42_method_149_code_42) rfl rfl k) ?_
  show own_Gl _ _ _ _ _ _ _ (T5.setTop (mkF m 44 #[.val (.ref a), .val (.ref b), .val (.int (0 : Int32)), .val (.int (2 : Int32)), .val .null, .val (.ref r_5)] [(.ref r_5), (.ref a)]))
  refine own_st (fun _ k => XS.iloadN X5.here hx rfl (hb hby own_d_jdk_42_method_149_code_44) rfl k) ?_
  show own_Gl _ _ _ _ _ _ _ (T5.setTop (mkF m 45 #[.val (.ref a), .val (.ref b), .val (.int (0 : Int32)), .val (.int (2 : Int32)), .val .null, .val (.ref r_5)] [(.int (2 : Int32)), (.ref r_5), (.ref a)]))
  have f8 := (E_a.keep Kq5)
  have f9 := (V_b.keep Kq5 nin0)
  obtain ⟨_, _, ⟨T7, L7, k7, n7⟩, -, X7, ⟨Lc7, hQ7, l7, y7, z7⟩, st7⟩ := Jvm.LawKit.callS X5 hx (y := (⟨"java/lang/StringUTF16", "coderFromArrayLen", "([BI)B"⟩ : MethodName)) hown (mvT hZ (hw _ (List.mem_of_getElem? (i := 24) rfl))) (mvT hZ (hw _ (List.mem_of_getElem? (i := 25) rfl))) (mvT hZ (hw _ (List.mem_of_getElem? (i := 18) rfl))) (mvT hZ (hw _ (List.mem_of_getElem? (i := 26) rfl))) (by decide) (backOf (W := 1) (own_cf_2_2 l Z a0 hw [] r_5 kr_5 [(.int (nar .byte (v0.toInt8.toInt32))), (.int (nar .byte (v1.toInt8.toInt32)))] hh5 n0 Zs6 P5_2) hZ (hw _ (List.mem_of_getElem? (i := 26) rfl)) (hw _ (List.mem_of_getElem? (i := 18) rfl)) (by decide) (by decide)) (g := (mkF m 45 #[.val (.ref a), .val (.ref b), .val (.int (0 : Int32)), .val (.int (2 : Int32)), .val .null, .val (.ref r_5)] [(.int (2 : Int32)), (.ref r_5), (.ref a)])) rfl (by rw [hml]; rfl) (argsL := [(.ref r_5), (.int (2 : Int32))]) (rest := [(.ref a)]) (lenOf own_pd128711047 rfl) rfl (by show 2 * 0 + _ ≤ _; exact Nat.le_of_eq rfl) (hb hby own_d_jdk_42_method_149_code_45) (fun _ _ => ⟨rfl, eh05, (by decide : 1 + 0 ≤ ({ frames := 2, cells := 1, slots := 2, locals := 35 } : Room).cells), (by decide : 2 + 0 ≤ ({ frames := 2, cells := 1, slots := 2, locals := 35 } : Room).slots)⟩)
  dsimp only [Pt.U, Pt.locs, Pt.cells, Pt.slots] at X7 l7 y7 z7 st7 hQ7
  subst l7 y7 z7
  obtain ⟨hh7, eh07⟩ : ∃ z, T7.heap = z := ⟨_, rfl⟩
  rw [eh07] at hQ7
  obtain ⟨rfl, Nq7, eh7⟩ := hQ7
  have N7 := Fr.app N5 Nq7
  refine own_st st7 ?_
  have e7 : T7.heap = hh5 := eh07.trans eh7
  show own_Gl _ _ _ _ _ _ _ (T7.setTop (mkF m 48 #[.val (.ref a), .val (.ref b), .val (.int (0 : Int32)), .val (.int (2 : Int32)), .val .null, .val (.ref r_5)] [(.int (0 : Int32)), (.ref a)]))
  have f10 := (F_a_coder.keep Kq5 nin0)
  obtain ⟨T11, h11, X11, e11, W11, st11⟩ := putFN X7 hx hZ hown (hw _ (List.mem_of_getElem? (i := 27) rfl)) Via.refl e7 f10 f8 (Or.inr ⟨(hw _ (List.mem_of_getElem? (i := 28) rfl)), rfl, hnm⟩) (hw _ (List.mem_of_getElem? (i := 3) rfl)) (ty := .byte) (v' := (.int (nar .byte (0 : Int32)))) (by decide) rfl (fits_nar_byte _) (g := (mkF m 48 #[.val (.ref a), .val (.ref b), .val (.int (0 : Int32)), .val (.int (2 : Int32)), .val .null, .val (.ref r_5)] [(.int (0 : Int32)), (.ref a)])) rfl rfl (hb hby own_d_jdk_42_method_149_code_48)
  have N11 := Fr.snoc X11 N7 g_a
  refine own_st st11 ?_
  have Zs12 : n0 ≤ h11.size := Nat.le_trans Zs6 (Keep.of_wr W11).1
  have Fw11 := f10.same W11
  show own_Gl _ _ _ _ _ _ _ (T11.setTop (mkF m 51 #[.val (.ref a), .val (.ref b), .val (.int (0 : Int32)), .val (.int (2 : Int32)), .val .null, .val (.ref r_5)] []))
  refine own_st (fun _ k => XS.aloadN X11.here hx rfl (hb hby own_d_jdk_42_method_149_code_51) rfl rfl k) ?_
  show own_Gl _ _ _ _ _ _ _ (T11.setTop (mkF m 52 #[.val (.ref a), .val (.ref b), .val (.int (0 : Int32)), .val (.int (2 : Int32)), .val .null, .val (.ref r_5)] [(.ref a)]))
  refine own_st (fun _ k => XS.aload X11.here hx rfl (hb hby own_d_jdk_42_method_149_code_52) rfl rfl k) ?_
  show own_Gl _ _ _ _ _ _ _ (T11.setTop (mkF m 54 #[.val (.ref a), .val (.ref b), .val (.int (0 : Int32)), .val (.int (2 : Int32)), .val .null, .val (.ref r_5)] [(.ref r_5), (.ref a)]))
  have f13 := (f8.wr W11)
  have f14 := ((F_a_value.keep Kq5 nin0).other W11 (Or.inr (slot_ne (Or.inr (hw _ (List.mem_of_getElem? (i := 30) rfl))) (Or.inr (hw _ (List.mem_of_getElem? (i := 28) rfl))) (by decide) (t := (.array .byte)) (t' := .byte) (by decide) (by decide))))
  obtain ⟨T15, h15, X15, e15, W15, st15⟩ := putF X11 hx hZ hown (host := "") (Or.inl (hw _ (List.mem_of_getElem? (i := 29) rfl))) Via.refl e11 f14 f13 (Or.inr ⟨(hw _ (List.mem_of_getElem? (i := 30) rfl)), rfl, hnm⟩) (hw _ (List.mem_of_getElem? (i := 3) rfl)) (ty := (.array .byte)) (by decide) rfl rfl (g := (mkF m 54 #[.val (.ref a), .val (.ref b), .val (.int (0 : Int32)), .val (.int (2 : Int32)), .val .null, .val (.ref r_5)] [(.ref r_5), (.ref a)])) rfl rfl (hb hby own_d_jdk_42_method_149_code_54)
  have N15 := Fr.snoc X15 N11 g_a
  refine own_st st15 ?_
  have Zs16 : n0 ≤ h15.size := Nat.le_trans Zs12 (Keep.of_wr W15).1
  have Fw15 := f14.same W15
  show own_Gl _ _ _ _ _ _ _ (T15.setTop (mkF m 57 #[.val (.ref a), .val (.ref b), .val (.int (0 : Int32)), .val (.int (2 : Int32)), .val .null, .val (.ref r_5)] []))
  have f17 := (Fw11.other W15 (Or.inr (slot_ne (Or.inr (hw _ (List.mem_of_getElem? (i := 28) rfl))) (Or.inr (hw _ (List.mem_of_getElem? (i := 30) rfl))) (by decide) (t := .byte) (t' := (.array .byte)) (by decide) (by decide))))
  have K18 : Keep h0 h15 [a] := ((((Keep.refl h0 [a]).trans Kq5 all0).wr W11 (Or.inl (List.mem_of_getElem? (i := 0) rfl))).wr W15 (Or.inl (List.mem_of_getElem? (i := 0) rfl)))
  have f19 := ((P5_2.other W11 (Ne.symm ne_a_r_5)).other W15 (Ne.symm ne_a_r_5))
  exact own_retV X15 hx hlk hret (hb hby own_d_jdk_42_method_149_code_57) e15 ⟨r_5, kr_5, rfl, N15, K18, P5_0, gh_r_5, f19, Fw15, f17⟩ (by decide) (by decide)
theorem own_d_jdk_42_method_3_code_0 : decode jdk_42_method_3_code 0 = .ok (.aload_n 0, 1) := by decide +kernel
theorem own_d_jdk_42_method_3_code_1 : decode jdk_42_method_3_code 1 = .ok (.aload_n 1, 1) := by decide +kernel
theorem own_d_jdk_42_method_3_code_2 : decode jdk_42_method_3_code 2 = .ok (.iconst 0, 1) := by decide +kernel
theorem own_d_jdk_42_method_3_code_3 : decode jdk_42_method_3_code 3 = .ok (.aload_n 1, 1) := by decide +kernel
theorem own_d_jdk_42_method_3_code_4 : decode jdk_42_method_3_code 4 = .ok (.arraylength, 1) := by decide +kernel
theorem own_d_jdk_42_method_3_code_5 : decode jdk_42_method_3_code 5 = .ok (.aconst_null, 1) := by decide +kernel
theorem own_d_jdk_42_method_3_code_6 : decode jdk_42_method_3_code 6 = .ok (.invokespecial 27, 3) := by decide +kernel
theorem own_pd888094010 : parseMethodDescriptor "([CIILjava/lang/Void;)V" = some ⟨[(.array .char), .int, .int, (.object "java/lang/Void")], none⟩ := by decide +kernel
theorem own_d_jdk_42_method_3_code_9 : decode jdk_42_method_3_code 9 = .ok (.return_, 1) := by decide +kernel
theorem own_ef_own_i1_2_2 (m : MethodId) (x0 : Addr) (x1 : Addr) : entryFrame m #[(.ref x0), (.ref x1)] 2 = mkF m 0 #[.val (.ref x0), .val (.ref x1)] [] := by first | (simp [entryFrame, mkF, argsToLocals, Value.category]; done) | rfl
def own_Q_own_i1_2_2 (Z : State) (a : Addr) (b : Addr) (k : ClassId) (v0 : Int32) (v1 : Int32) (cs : Int32) (h0 : Heap) (n0 : Nat) (v : Option Value) (h : Heap) (L : List Loc) : Prop := ∃ (r : Addr) (kr : ClassId), (v = none) ∧ (Fr n0 L) ∧ (Keep h0 h [a]) ∧ (n0 ≤ r) ∧ (h0.size ≤ r) ∧ (Arv Z h r kr .byte (2 : Int32) [(.int (nar .byte (v0.toInt8.toInt32))), (.int (nar .byte (v1.toInt8.toInt32)))] (.int (0 : Int32))) ∧ (Fld Z h a "java/lang/String" "value" "[B" (.ref r)) ∧ (Fld Z h a "java/lang/String" "coder" "B" (.int (0 : Int32)))
set_option maxRecDepth 65536 in
set_option maxHeartbeats 40000000 in
theorem own_i1_2_2 (l : Launch) (Z : State) (a0 : Array Value) (hw : ∀ d ∈ tables_1, d.before a0 Z = true) (ws : List Jvm.Cond) (a : Addr) (b : Addr) (k : ClassId) (v0 : Int32) (v1 : Int32) (cs : Int32) (h0 : Heap) (n0 : Nat) (Z0 : n0 ≤ h0.size) (E_a : Exa Z h0 a "java/lang/String") (F_a_value : Fld Z h0 a "java/lang/String" "value" "[B" .null) (F_a_coder : Fld Z h0 a "java/lang/String" "coder" "B" (.int (0 : Int32))) (g_a : n0 ≤ a) (ne_a_b : a ≠ b) (V_b : Arv Z h0 b k .char (2 : Int32) [(.int v0), (.int v1)] (.int (0 : Int32))) (hle0 : ¬ ((255 : Int32) < v0)) (hle1 : ¬ ((255 : Int32) < v1)) (S_COMPACT_STRINGS : Sta Z h0 "java/lang/String" "COMPACT_STRINGS" "Z" (.int cs)) (hcs : ¬ (cs = (0 : Int32))) :
    MetFree l (⟨"java/lang/String", "<init>", "([C)V"⟩ : MethodName) (head1 (Jvm.Cond.code (⟨"java/lang/String", "<init>", "([C)V"⟩ : MethodName) jdk_42_method_3_code 2 none :: ws) ({ frames := 3, cells := 1, slots := 2, locals := 52 } : Room)) (fun xa xU => xa = #[(.ref a), (.ref b)] ∧ Z.Warmed39 xU.vm ∧ xU.heap = h0) (fun _ _ _ _ _ => True) (fun _ xU xo xV => ∃ v L, xo = .returned v ∧ own_Q_own_i1_2_2 Z a b k v0 v1 cs h0 n0 v xV.heap L ∧ FrameEnd xU xo xV L ({ frames := 3, cells := 1, slots := 2, locals := 52 } : Room).cells ({ frames := 3, cells := 1, slots := 2, locals := 52 } : Room).slots) := by
  refine MetFree.of_bodySF (plainFor_of_name own_pn853443214) hisR ?_
  intro p e s m args below meth c s₁ Bd hml0 hP hK
  obtain ⟨rfl, hZ, hh⟩ := hP
  have hx := Bd.exec
  have hby := Bd.bytes
  have hlk := Bd.notSynchronized
  have hret := Bd.returns
  have hml : c.maxLocals = 2 := hml0
  have hown : s.vm.findClass "java/lang/String" = some m.cls := findClass_of_methodNamed Bd.named
  have hnm := (name_of_methodNamed Bd.named Bd.method).1
  have X0 : Stand p l e ({ frames := 3, cells := 1, slots := 2, locals := 52 } : Room) s m #[(.ref a), (.ref b)] below meth c s₁ [] 0 0 := Stand.of_body Bd
  have e0 : s₁.heap = h0 := by rw [← hh, Bd.state]; rfl
  have N0 := Fr.nil n0
  show own_Gl p e below s (own_Q_own_i1_2_2 Z a b k v0 v1 cs h0 n0) ({ frames := 3, cells := 1, slots := 2, locals := 52 } : Room).cells ({ frames := 3, cells := 1, slots := 2, locals := 52 } : Room).slots _
  refine own_cast (own_ef_own_i1_2_2 m a b) ?_
  show own_Gl _ _ _ _ _ _ _ (s₁.setTop (mkF m 0 #[.val (.ref a), .val (.ref b)] []))
  refine own_st (fun _ k => XS.aloadN X0.here hx rfl (hb hby own_d_jdk_42_method_3_code_0) rfl rfl k) ?_
  show own_Gl _ _ _ _ _ _ _ (s₁.setTop (mkF m 1 #[.val (.ref a), .val (.ref b)] [(.ref a)]))
  refine own_st (fun _ k => XS.aloadN X0.here hx rfl (hb hby own_d_jdk_42_method_3_code_1) rfl rfl k) ?_
  show own_Gl _ _ _ _ _ _ _ (s₁.setTop (mkF m 2 #[.val (.ref a), .val (.ref b)] [(.ref b), (.ref a)]))
  refine own_st (fun _ k => XS.iconst X0.here hx rfl (hb hby own_d_jdk_42_method_3_code_2) k) ?_
  show own_Gl _ _ _ _ _ _ _ (s₁.setTop (mkF m 3 #[.val (.ref a), .val (.ref b)] [(.int (0 : Int32)), (.ref b), (.ref a)]))
  refine own_st (fun _ k => XS.aloadN X0.here hx rfl (hb hby own_d_jdk_42_method_3_code_3) rfl rfl k) ?_
  show own_Gl _ _ _ _ _ _ _ (s₁.setTop (mkF m 4 #[.val (.ref a), .val (.ref b)] [(.ref b), (.int (0 : Int32)), (.ref b), (.ref a)]))
  obtain ⟨cl1, Ar1, qq1, Ss1, Nn1, Hh1, Gg1⟩ := id V_b
  refine own_st (X0.arraylength hx (by rw [e0]; exact Ar1.1) (State.isArrayOf_alike hZ.alike Ar1.2.1) (g := (mkF m 4 #[.val (.ref a), .val (.ref b)] [(.ref b), (.int (0 : Int32)), (.ref b), (.ref a)])) rfl rfl (hb hby own_d_jdk_42_method_3_code_4)) ?_
  rw [len_of Ss1 Nn1]
  show own_Gl _ _ _ _ _ _ _ (s₁.setTop (mkF m 5 #[.val (.ref a), .val (.ref b)] [(.int (2 : Int32)), (.int (0 : Int32)), (.ref b), (.ref a)]))
  refine own_st (fun _ k => XS.aconstNull X0.here hx rfl (hb hby own_d_jdk_42_method_3_code_5) k) ?_
  show own_Gl _ _ _ _ _ _ _ (s₁.setTop (mkF m 6 #[.val (.ref a), .val (.ref b)] [.null, (.int (2 : Int32)), (.int (0 : Int32)), (.ref b), (.ref a)]))
  obtain ⟨_, _, ⟨T2, L2, k2, n2⟩, -, X2, ⟨Lc2, hQ2, l2, y2, z2⟩, st2⟩ := X0.specialBack hx (y := (⟨"java/lang/String", "<init>", "([CIILjava/lang/Void;)V"⟩ : MethodName)) rfl hown (mvT hZ (hw _ (List.mem_of_getElem? (i := 8) rfl))) (mvT hZ (hw _ (List.mem_of_getElem? (i := 9) rfl))) (mvT hZ (hw _ (List.mem_of_getElem? (i := 11) rfl))) (by decide) (backOf (W := 0) (own_i4_2_2 l Z a0 hw [] a b k v0 v1 cs h0 n0 Z0 E_a F_a_value F_a_coder g_a ne_a_b V_b hle0 hle1 S_COMPACT_STRINGS hcs) hZ (hw _ (List.mem_of_getElem? (i := 11) rfl)) (hw _ (List.mem_of_getElem? (i := 4) rfl)) (by decide) (by decide)) (g := (mkF m 6 #[.val (.ref a), .val (.ref b)] [.null, (.int (2 : Int32)), (.int (0 : Int32)), (.ref b), (.ref a)])) rfl (by rw [hml]; rfl) (Steps.refl _) (a := a) (argsL := [(.ref b), (.int (0 : Int32)), (.int (2 : Int32)), .null]) (rest := []) (lenOf own_pd888094010 rfl) rfl (by show 2 * 0 + _ ≤ _; exact Nat.le_of_eq rfl) (hb hby own_d_jdk_42_method_3_code_6) (fun _ _ => ⟨rfl, e0, (by decide : 0 + 1 ≤ ({ frames := 3, cells := 1, slots := 2, locals := 52 } : Room).cells), (by decide : 0 + 2 ≤ ({ frames := 3, cells := 1, slots := 2, locals := 52 } : Room).slots)⟩)
  dsimp only [Pt.U, Pt.locs, Pt.cells, Pt.slots] at X2 l2 y2 z2 st2 hQ2
  subst l2 y2 z2
  obtain ⟨hh2, eh02⟩ : ∃ z, T2.heap = z := ⟨_, rfl⟩
  rw [eh02] at hQ2
  obtain ⟨r_2, kr_2, rfl, Nq2, Kq2, P2_0, P2_1, P2_2, P2_3, P2_4⟩ := hQ2
  have N2 := Fr.app N0 Nq2
  refine own_tr st2 ?_
  have Zs3 : n0 ≤ hh2.size := Nat.le_trans Z0 Kq2.1
  have gh_r_2 : h0.size ≤ r_2 := Nat.le_trans (Keep.refl h0 [a]).1 P2_1
  have ne_a_r_2 : a ≠ r_2 := Nat.ne_of_lt (Nat.lt_of_lt_of_le E_a.lt P2_1)
  have ne_b_r_2 : b ≠ r_2 := Nat.ne_of_lt (Nat.lt_of_lt_of_le V_b.lt P2_1)
  show own_Gl _ _ _ _ _ _ _ (T2.setTop (mkF m 9 #[.val (.ref a), .val (.ref b)] []))
  have K4 : Keep h0 hh2 [a] := ((Keep.refl h0 [a]).trans Kq2 (allS (Or.inl (List.mem_of_getElem? (i := 0) rfl)) all0))
  exact own_retV X2 hx hlk hret (hb hby own_d_jdk_42_method_3_code_9) eh02 ⟨r_2, kr_2, rfl, N2, K4, P2_0, gh_r_2, P2_2, P2_3, P2_4⟩ (by decide) (by decide)
theorem own_d_prog_30_method_5_code_0 : decode prog_30_method_5_code 0 = .ok (.iload_n 1, 1) := by decide +kernel
theorem own_d_prog_30_method_5_code_1 : decode prog_30_method_5_code 1 = .ok (.iconst 1, 1) := by decide +kernel
theorem own_d_prog_30_method_5_code_2 : decode prog_30_method_5_code 2 = .ok (.if_icmp .lt 10, 3) := by decide +kernel
theorem own_d_prog_30_method_5_code_5 : decode prog_30_method_5_code 5 = .ok (.iload_n 1, 1) := by decide +kernel
theorem own_d_prog_30_method_5_code_6 : decode prog_30_method_5_code 6 = .ok (.sipush 1200, 3) := by decide +kernel
theorem own_d_prog_30_method_5_code_9 : decode prog_30_method_5_code 9 = .ok (.if_icmp .le 18, 3) := by decide +kernel
theorem own_d_prog_30_method_5_code_27 : decode prog_30_method_5_code 27 = .ok (.return_, 1) := by decide +kernel
theorem own_ef_own_check (m : MethodId) (x0 : Addr) (x1 : Int32) : entryFrame m #[(.ref x0), (.int x1)] 2 = mkF m 0 #[.val (.ref x0), .val (.int x1)] [] := by first | (simp [entryFrame, mkF, argsToLocals, Value.category]; done) | rfl
def own_Q_own_check (Z : State) (a : Addr) (p1 : Int32) (h0 : Heap) (n0 : Nat) (v : Option Value) (h : Heap) (L : List Loc) : Prop := (v = none) ∧ (Fr n0 L) ∧ (h = h0)
theorem own_pn102870090 : plainName "org/benli/core/Limits" = true := by first | (simp [plainName, overriddenIn]; done) | decide +kernel
set_option maxRecDepth 65536 in
set_option maxHeartbeats 40000000 in
theorem own_check (l : Launch) (Z : State) (a0 : Array Value) (hw : ∀ d ∈ tables_1, d.before a0 Z = true) (ws : List Jvm.Cond) (a : Addr) (p1 : Int32) (h0 : Heap) (n0 : Nat) (Z0 : n0 ≤ h0.size) (h1 : ¬ (p1 < (1 : Int32))) (h2 : ¬ ((1200 : Int32) < p1)) :
    MetFree l (⟨"org/benli/core/Limits", "checkPeriods", "(Ljava/lang/String;I)V"⟩ : MethodName) (head1 (Jvm.Cond.code (⟨"org/benli/core/Limits", "checkPeriods", "(Ljava/lang/String;I)V"⟩ : MethodName) prog_30_method_5_code 2 none :: ws) ({ frames := 0, cells := 0, slots := 0, locals := 0 } : Room)) (fun xa xU => xa = #[(.ref a), (.int p1)] ∧ Z.Warmed39 xU.vm ∧ xU.heap = h0) (fun _ _ _ _ _ => True) (fun _ xU xo xV => ∃ v L, xo = .returned v ∧ own_Q_own_check Z a p1 h0 n0 v xV.heap L ∧ FrameEnd xU xo xV L ({ frames := 0, cells := 0, slots := 0, locals := 0 } : Room).cells ({ frames := 0, cells := 0, slots := 0, locals := 0 } : Room).slots) := by
  refine MetFree.of_bodySF (plainFor_of_name own_pn102870090) hisR ?_
  intro p e s m args below meth c s₁ Bd hml0 hP hK
  obtain ⟨rfl, hZ, hh⟩ := hP
  have hx := Bd.exec
  have hby := Bd.bytes
  have hlk := Bd.notSynchronized
  have hret := Bd.returns
  have hml : c.maxLocals = 2 := hml0
  have hown : s.vm.findClass "org/benli/core/Limits" = some m.cls := findClass_of_methodNamed Bd.named
  have hnm := (name_of_methodNamed Bd.named Bd.method).1
  have X0 : Stand p l e ({ frames := 0, cells := 0, slots := 0, locals := 0 } : Room) s m #[(.ref a), (.int p1)] below meth c s₁ [] 0 0 := Stand.of_body Bd
  have e0 : s₁.heap = h0 := by rw [← hh, Bd.state]; rfl
  have N0 := Fr.nil n0
  show own_Gl p e below s (own_Q_own_check Z a p1 h0 n0) ({ frames := 0, cells := 0, slots := 0, locals := 0 } : Room).cells ({ frames := 0, cells := 0, slots := 0, locals := 0 } : Room).slots _
  refine own_cast (own_ef_own_check m a p1) ?_
  show own_Gl _ _ _ _ _ _ _ (s₁.setTop (mkF m 0 #[.val (.ref a), .val (.int p1)] []))
  refine own_st (fun _ k => XS.iloadN X0.here hx rfl (hb hby own_d_prog_30_method_5_code_0) rfl k) ?_
  show own_Gl _ _ _ _ _ _ _ (s₁.setTop (mkF m 1 #[.val (.ref a), .val (.int p1)] [(.int p1)]))
  refine own_st (fun _ k => XS.iconst X0.here hx rfl (hb hby own_d_prog_30_method_5_code_1) k) ?_
  show own_Gl _ _ _ _ _ _ _ (s₁.setTop (mkF m 2 #[.val (.ref a), .val (.int p1)] [(.int (1 : Int32)), (.int p1)]))
  have hd1 : ¬ (p1 < (1 : Int32)) := h1
  refine own_st (fun _ k => XS.icmpNo X0.here hx rfl (hb hby own_d_prog_30_method_5_code_2) rfl (flt hd1).1 k) ?_
  show own_Gl _ _ _ _ _ _ _ (s₁.setTop (mkF m 5 #[.val (.ref a), .val (.int p1)] []))
  refine own_st (fun _ k => XS.iloadN X0.here hx rfl (hb hby own_d_prog_30_method_5_code_5) rfl k) ?_
  show own_Gl _ _ _ _ _ _ _ (s₁.setTop (mkF m 6 #[.val (.ref a), .val (.int p1)] [(.int p1)]))
  refine own_st (fun _ k => XS.sipush X0.here hx rfl (hb hby own_d_prog_30_method_5_code_6) k) ?_
  show own_Gl _ _ _ _ _ _ _ (s₁.setTop (mkF m 9 #[.val (.ref a), .val (.int p1)] [(.int (1200 : Int32)), (.int p1)]))
  have hd2 : ¬ ((1200 : Int32) < p1) := h2
  refine own_st (fun _ k => XS.icmpYes X0.here hx rfl (pc0 := 9) (pc' := 27) rfl (hb hby own_d_prog_30_method_5_code_9) rfl (flt hd2).2.2.2 (by decide) (by decide) k) ?_
  show own_Gl _ _ _ _ _ _ _ (s₁.setTop (mkF m 27 #[.val (.ref a), .val (.int p1)] []))
  exact own_retV X0 hx hlk hret (hb hby own_d_prog_30_method_5_code_27) e0 ⟨rfl, N0, rfl⟩ (by decide) (by decide)
theorem own_pd985728365 : parseMethodDescriptor "([C)V" = some ⟨[(.array .char)], none⟩ := by decide +kernel
theorem own_pd529278456 : parseMethodDescriptor "(Ljava/lang/String;I)V" = some ⟨[(.object "java/lang/String"), .int], none⟩ := by decide +kernel
theorem own_ef_own_law (m : MethodId) (x0 : Int32) (x1 : Int32) (x2 : Int32) : entryFrame m #[(.int x0), (.int x1), (.int x2)] maxLocals = mkF m 0 #[.val (.int x0), .val (.int x1), .val (.int x2), .unset, .unset, .unset] [] := by first | (simp [entryFrame, mkF, argsToLocals, Value.category, maxLocals]; done) | rfl
def own_Q_own_law (Z : State) (p1 : Int32) (p2 : Int32) (p3 : Int32) (cs : Int32) (h0 : Heap) (n0 : Nat) (v : Option Value) (h : Heap) (L : List Loc) : Prop := v = some (.int 1) ∧ Fr n0 L
theorem own_pn656192568 : plainName "org/benli/core/LimitsCheckPeriodsPinLaw" = true := by first | (simp [plainName, overriddenIn]; done) | decide +kernel
set_option maxRecDepth 65536 in
set_option maxHeartbeats 40000000 in
theorem own_law (l : Launch) (Z : State) (a0 : Array Value) (hw : ∀ d ∈ tables_1, d.before a0 Z = true) (ws : List Jvm.Cond) (p1 : Int32) (p2 : Int32) (p3 : Int32) (cs : Int32) (h0 : Heap) (n0 : Nat) (Z0 : n0 ≤ h0.size) (Old0 : Old Z n0 h0) (S_COMPACT_STRINGS : Sta Z Z.heap "java/lang/String" "COMPACT_STRINGS" "Z" (.int cs)) (hcs : ¬ (cs = (0 : Int32))) :
    MetFree l x (head1 (Jvm.Cond.code x code maxLocals ret :: ws) room_1) (fun xa xU => xa = #[(.int p1), (.int p2), (.int p3)] ∧ Z.Warmed39 xU.vm ∧ xU.heap = h0) (fun _ _ _ _ _ => True) (fun _ xU xo xV => ∃ v L, xo = .returned v ∧ own_Q_own_law Z p1 p2 p3 cs h0 n0 v xV.heap L ∧ FrameEnd xU xo xV L room_1.cells room_1.slots) := by
  refine MetFree.of_bodySF (plainFor_of_name own_pn656192568) hisR ?_
  intro p e s m args below meth c s₁ Bd hml0 hP hK
  obtain ⟨rfl, hZ, hh⟩ := hP
  have hx := Bd.exec
  have hby := Bd.bytes
  have hlk := Bd.notSynchronized
  have hret := Bd.returns
  have hml : c.maxLocals = 6 := hml0
  have hown : s.vm.findClass "org/benli/core/LimitsCheckPeriodsPinLaw" = some m.cls := findClass_of_methodNamed Bd.named
  have hnm := (name_of_methodNamed Bd.named Bd.method).1
  have X0 : Stand p l e room_1 s m #[(.int p1), (.int p2), (.int p3)] below meth c s₁ [] 0 0 := Stand.of_body Bd
  have e0 : s₁.heap = h0 := by rw [← hh, Bd.state]; rfl
  have N0 := Fr.nil n0
  show own_Gl p e below s (own_Q_own_law Z p1 p2 p3 cs h0 n0) room_1.cells room_1.slots _
  refine own_cast (own_ef_own_law m p1 p2 p3) ?_
  show own_Gl _ _ _ _ _ _ _ (s₁.setTop (mkF m 0 #[.val (.int p1), .val (.int p2), .val (.int p3), .unset, .unset, .unset] []))
  refine own_st (fun _ k => XS.iconst X0.here hx rfl (hb hby at_0) k) ?_
  show own_Gl _ _ _ _ _ _ _ (s₁.setTop (mkF m 1 #[.val (.int p1), .val (.int p2), .val (.int p3), .unset, .unset, .unset] [(.int (1 : Int32))]))
  refine own_st (fun _ k => XS.iloadN X0.here hx rfl (hb hby at_1) rfl k) ?_
  show own_Gl _ _ _ _ _ _ _ (s₁.setTop (mkF m 2 #[.val (.int p1), .val (.int p2), .val (.int p3), .unset, .unset, .unset] [(.int p1), (.int (1 : Int32))]))
  refine own_st (X0.ldcInt hx hown (mvT hZ (hw _ (List.mem_of_getElem? (i := 0) rfl))) (g := (mkF m 2 #[.val (.int p1), .val (.int p2), .val (.int p3), .unset, .unset, .unset] [(.int p1), (.int (1 : Int32))])) rfl (hb hby at_2)) ?_
  show own_Gl _ _ _ _ _ _ _ (s₁.setTop (mkF m 4 #[.val (.int p1), .val (.int p2), .val (.int p3), .unset, .unset, .unset] [(.int (2147483647 : Int32)), (.int p1), (.int (1 : Int32))]))
  refine own_st (fun _ k => XS.iand X0.here hx rfl (hb hby at_4) rfl k) ?_
  show own_Gl _ _ _ _ _ _ _ (s₁.setTop (mkF m 5 #[.val (.int p1), .val (.int p2), .val (.int p3), .unset, .unset, .unset] [(.int (p1 &&& (2147483647 : Int32))), (.int (1 : Int32))]))
  refine own_st (fun _ k => XS.sipush X0.here hx rfl (hb hby at_5) k) ?_
  show own_Gl _ _ _ _ _ _ _ (s₁.setTop (mkF m 8 #[.val (.int p1), .val (.int p2), .val (.int p3), .unset, .unset, .unset] [(.int (1200 : Int32)), (.int (p1 &&& (2147483647 : Int32))), (.int (1 : Int32))]))
  refine own_st (fun _ k => iremM X0 hx rfl (hb hby at_8) rfl (by decide) k) ?_
  show own_Gl _ _ _ _ _ _ _ (s₁.setTop (mkF m 9 #[.val (.int p1), .val (.int p2), .val (.int p3), .unset, .unset, .unset] [(.int ((p1 &&& (2147483647 : Int32)) % (1200 : Int32))), (.int (1 : Int32))]))
  refine own_st (fun _ k => XS.iadd X0.here hx rfl (hb hby at_9) rfl k) ?_
  show own_Gl _ _ _ _ _ _ _ (s₁.setTop (mkF m 10 #[.val (.int p1), .val (.int p2), .val (.int p3), .unset, .unset, .unset] [(.int ((1 : Int32) + ((p1 &&& (2147483647 : Int32)) % (1200 : Int32))))]))
  refine own_st (fun _ k => XS.istoreN X0.here hx rfl (hb hby at_10) rfl (l' := #[.val (.int p1), .val (.int p2), .val (.int p3), .val (.int ((1 : Int32) + ((p1 &&& (2147483647 : Int32)) % (1200 : Int32)))), .unset, .unset]) rfl k) ?_
  show own_Gl _ _ _ _ _ _ _ (s₁.setTop (mkF m 11 #[.val (.int p1), .val (.int p2), .val (.int p3), .val (.int ((1 : Int32) + ((p1 &&& (2147483647 : Int32)) % (1200 : Int32)))), .unset, .unset] []))
  refine own_st (fun _ k => XS.iconst X0.here hx rfl (hb hby at_11) k) ?_
  show own_Gl _ _ _ _ _ _ _ (s₁.setTop (mkF m 12 #[.val (.int p1), .val (.int p2), .val (.int p3), .val (.int ((1 : Int32) + ((p1 &&& (2147483647 : Int32)) % (1200 : Int32)))), .unset, .unset] [(.int (2 : Int32))]))
  obtain ⟨T1, h1, k1, X1, e1, E1, A1, st1⟩ := newP X0 hx hZ (hw _ (List.mem_of_getElem? (i := 1) rfl)) e0 (g := (mkF m 12 #[.val (.int p1), .val (.int p2), .val (.int p3), .val (.int ((1 : Int32) + ((p1 &&& (2147483647 : Int32)) % (1200 : Int32)))), .unset, .unset] [(.int (2 : Int32))])) rfl (hb hby at_12) rfl (by decide) (cap := 2) (by decide) (by decide) (by decide) (by decide)
  obtain ⟨b1, gb1⟩ : ∃ z, z = h0.size := ⟨_, rfl⟩
  rw [← gb1] at A1 st1
  refine own_st st1 ?_
  have Zs2 : n0 ≤ h1.size := Nat.le_trans Z0 E1.1
  have g_b1 : n0 ≤ b1 := Nat.le_trans Z0 (Nat.le_of_eq gb1.symm)
  have gh_b1 : h0.size ≤ b1 := Nat.le_trans (Keep.refl h0 []).1 (Nat.le_of_eq gb1.symm)
  have V_b1 : Arv Z h1 b1 k1 .char (2 : Int32) [(.int (0 : Int32)), (.int (0 : Int32))] (.int (0 : Int32)) := (Arv.new A1 (by decide)).pad (pad_rep [] (.int (0 : Int32)) 2)
  show own_Gl _ _ _ _ _ _ _ (T1.setTop (mkF m 14 #[.val (.int p1), .val (.int p2), .val (.int p3), .val (.int ((1 : Int32) + ((p1 &&& (2147483647 : Int32)) % (1200 : Int32)))), .unset, .unset] [(.ref b1)]))
  refine own_st (fun _ k => XS.astore X1.here hx rfl (hb hby at_14) rfl rfl (l' := #[.val (.int p1), .val (.int p2), .val (.int p3), .val (.int ((1 : Int32) + ((p1 &&& (2147483647 : Int32)) % (1200 : Int32)))), .val (.ref b1), .unset]) rfl k) ?_
  show own_Gl _ _ _ _ _ _ _ (T1.setTop (mkF m 16 #[.val (.int p1), .val (.int p2), .val (.int p3), .val (.int ((1 : Int32) + ((p1 &&& (2147483647 : Int32)) % (1200 : Int32)))), .val (.ref b1), .unset] []))
  refine own_st (fun _ k => XS.aload X1.here hx rfl (hb hby at_16) rfl rfl k) ?_
  show own_Gl _ _ _ _ _ _ _ (T1.setTop (mkF m 18 #[.val (.int p1), .val (.int p2), .val (.int p3), .val (.int ((1 : Int32) + ((p1 &&& (2147483647 : Int32)) % (1200 : Int32)))), .val (.ref b1), .unset] [(.ref b1)]))
  refine own_st (fun _ k => XS.iconst X1.here hx rfl (hb hby at_18) k) ?_
  show own_Gl _ _ _ _ _ _ _ (T1.setTop (mkF m 19 #[.val (.int p1), .val (.int p2), .val (.int p3), .val (.int ((1 : Int32) + ((p1 &&& (2147483647 : Int32)) % (1200 : Int32)))), .val (.ref b1), .unset] [(.int (0 : Int32)), (.ref b1)]))
  refine own_st (fun _ k => XS.iloadN X1.here hx rfl (hb hby at_19) rfl k) ?_
  show own_Gl _ _ _ _ _ _ _ (T1.setTop (mkF m 20 #[.val (.int p1), .val (.int p2), .val (.int p3), .val (.int ((1 : Int32) + ((p1 &&& (2147483647 : Int32)) % (1200 : Int32)))), .val (.ref b1), .unset] [(.int p2), (.int (0 : Int32)), (.ref b1)]))
  refine own_st (fun _ k => XS.sipush X1.here hx rfl (hb hby at_20) k) ?_
  show own_Gl _ _ _ _ _ _ _ (T1.setTop (mkF m 23 #[.val (.int p1), .val (.int p2), .val (.int p3), .val (.int ((1 : Int32) + ((p1 &&& (2147483647 : Int32)) % (1200 : Int32)))), .val (.ref b1), .unset] [(.int (255 : Int32)), (.int p2), (.int (0 : Int32)), (.ref b1)]))
  refine own_st (fun _ k => XS.iand X1.here hx rfl (hb hby at_23) rfl k) ?_
  show own_Gl _ _ _ _ _ _ _ (T1.setTop (mkF m 24 #[.val (.int p1), .val (.int p2), .val (.int p3), .val (.int ((1 : Int32) + ((p1 &&& (2147483647 : Int32)) % (1200 : Int32)))), .val (.ref b1), .unset] [(.int (p2 &&& (255 : Int32))), (.int (0 : Int32)), (.ref b1)]))
  refine own_st (fun _ k => XS.i2c X1.here hx rfl (hb hby at_24) rfl k) ?_
  show own_Gl _ _ _ _ _ _ _ (T1.setTop (mkF m 25 #[.val (.int p1), .val (.int p2), .val (.int p3), .val (.int ((1 : Int32) + ((p1 &&& (2147483647 : Int32)) % (1200 : Int32)))), .val (.ref b1), .unset] [(.int ((p2 &&& (255 : Int32)).toUInt32.toUInt16.toUInt32.toInt32)), (.int (0 : Int32)), (.ref b1)]))
  obtain ⟨cl4, Ar4, qq4, Ss4, Nn4, Hh4, Gg4⟩ := id V_b1
  have hin4 : ¬ ((0 : Int32) < 0 ∨ cl4.slots.size ≤ ((0 : Int32)).toNatClampNeg) := inb_of Ss4 ⟨by decide, by decide⟩
  obtain ⟨T4, h4, X4, e4, W4, st4⟩ := stC X1 hx hZ e1 Ar4 (j := (0 : Int32)) hin4 (g := (mkF m 25 #[.val (.int p1), .val (.int p2), .val (.int p3), .val (.int ((1 : Int32) + ((p1 &&& (2147483647 : Int32)) % (1200 : Int32)))), .val (.ref b1), .unset] [(.int ((p2 &&& (255 : Int32)).toUInt32.toUInt16.toUInt32.toInt32)), (.int (0 : Int32)), (.ref b1)])) rfl rfl (hb hby at_25)
  have N4 := Fr.snoc X4 N0 g_b1
  refine own_st st4 ?_
  have Zs5 : n0 ≤ h4.size := Nat.le_trans Zs2 (Keep.of_wr W4).1
  have Vw4 : Arv Z h4 b1 k1 .char (2 : Int32) [(.int (nar .char ((p2 &&& (255 : Int32)).toUInt32.toUInt16.toUInt32.toInt32))), (.int (0 : Int32))] (.int (0 : Int32)) := Arv.set Ar4 qq4 Ss4 Nn4 Hh4 Gg4 (fits_nar_char _) W4 0 (rfl) (Nat.le_of_ble_eq_true rfl)
  show own_Gl _ _ _ _ _ _ _ (T4.setTop (mkF m 26 #[.val (.int p1), .val (.int p2), .val (.int p3), .val (.int ((1 : Int32) + ((p1 &&& (2147483647 : Int32)) % (1200 : Int32)))), .val (.ref b1), .unset] []))
  refine own_st (fun _ k => XS.aload X4.here hx rfl (hb hby at_26) rfl rfl k) ?_
  show own_Gl _ _ _ _ _ _ _ (T4.setTop (mkF m 28 #[.val (.int p1), .val (.int p2), .val (.int p3), .val (.int ((1 : Int32) + ((p1 &&& (2147483647 : Int32)) % (1200 : Int32)))), .val (.ref b1), .unset] [(.ref b1)]))
  refine own_st (fun _ k => XS.iconst X4.here hx rfl (hb hby at_28) k) ?_
  show own_Gl _ _ _ _ _ _ _ (T4.setTop (mkF m 29 #[.val (.int p1), .val (.int p2), .val (.int p3), .val (.int ((1 : Int32) + ((p1 &&& (2147483647 : Int32)) % (1200 : Int32)))), .val (.ref b1), .unset] [(.int (1 : Int32)), (.ref b1)]))
  refine own_st (fun _ k => XS.iloadN X4.here hx rfl (hb hby at_29) rfl k) ?_
  show own_Gl _ _ _ _ _ _ _ (T4.setTop (mkF m 30 #[.val (.int p1), .val (.int p2), .val (.int p3), .val (.int ((1 : Int32) + ((p1 &&& (2147483647 : Int32)) % (1200 : Int32)))), .val (.ref b1), .unset] [(.int p3), (.int (1 : Int32)), (.ref b1)]))
  refine own_st (fun _ k => XS.sipush X4.here hx rfl (hb hby at_30) k) ?_
  show own_Gl _ _ _ _ _ _ _ (T4.setTop (mkF m 33 #[.val (.int p1), .val (.int p2), .val (.int p3), .val (.int ((1 : Int32) + ((p1 &&& (2147483647 : Int32)) % (1200 : Int32)))), .val (.ref b1), .unset] [(.int (255 : Int32)), (.int p3), (.int (1 : Int32)), (.ref b1)]))
  refine own_st (fun _ k => XS.iand X4.here hx rfl (hb hby at_33) rfl k) ?_
  show own_Gl _ _ _ _ _ _ _ (T4.setTop (mkF m 34 #[.val (.int p1), .val (.int p2), .val (.int p3), .val (.int ((1 : Int32) + ((p1 &&& (2147483647 : Int32)) % (1200 : Int32)))), .val (.ref b1), .unset] [(.int (p3 &&& (255 : Int32))), (.int (1 : Int32)), (.ref b1)]))
  refine own_st (fun _ k => XS.i2c X4.here hx rfl (hb hby at_34) rfl k) ?_
  show own_Gl _ _ _ _ _ _ _ (T4.setTop (mkF m 35 #[.val (.int p1), .val (.int p2), .val (.int p3), .val (.int ((1 : Int32) + ((p1 &&& (2147483647 : Int32)) % (1200 : Int32)))), .val (.ref b1), .unset] [(.int ((p3 &&& (255 : Int32)).toUInt32.toUInt16.toUInt32.toInt32)), (.int (1 : Int32)), (.ref b1)]))
  obtain ⟨cl6, Ar6, qq6, Ss6, Nn6, Hh6, Gg6⟩ := id Vw4
  have hin6 : ¬ ((1 : Int32) < 0 ∨ cl6.slots.size ≤ ((1 : Int32)).toNatClampNeg) := inb_of Ss6 ⟨by decide, by decide⟩
  obtain ⟨T6, h6, X6, e6, W6, st6⟩ := stC X4 hx hZ e4 Ar6 (j := (1 : Int32)) hin6 (g := (mkF m 35 #[.val (.int p1), .val (.int p2), .val (.int p3), .val (.int ((1 : Int32) + ((p1 &&& (2147483647 : Int32)) % (1200 : Int32)))), .val (.ref b1), .unset] [(.int ((p3 &&& (255 : Int32)).toUInt32.toUInt16.toUInt32.toInt32)), (.int (1 : Int32)), (.ref b1)])) rfl rfl (hb hby at_35)
  have N6 := Fr.snoc X6 N4 g_b1
  refine own_st st6 ?_
  have Zs7 : n0 ≤ h6.size := Nat.le_trans Zs5 (Keep.of_wr W6).1
  have Vw6 : Arv Z h6 b1 k1 .char (2 : Int32) [(.int (nar .char ((p2 &&& (255 : Int32)).toUInt32.toUInt16.toUInt32.toInt32))), (.int (nar .char ((p3 &&& (255 : Int32)).toUInt32.toUInt16.toUInt32.toInt32)))] (.int (0 : Int32)) := Arv.set Ar6 qq6 Ss6 Nn6 Hh6 Gg6 (fits_nar_char _) W6 1 (rfl) (Nat.le_of_ble_eq_true rfl)
  show own_Gl _ _ _ _ _ _ _ (T6.setTop (mkF m 36 #[.val (.int p1), .val (.int p2), .val (.int p3), .val (.int ((1 : Int32) + ((p1 &&& (2147483647 : Int32)) % (1200 : Int32)))), .val (.ref b1), .unset] []))
  have K8 : Keep h0 h6 [] := ((((Keep.refl h0 []).ext E1).wr W4 (Or.inr gh_b1)).wr W6 (Or.inr gh_b1))
  obtain ⟨T9, h9, X9, e9, E9, A9, D9, -, st9⟩ := newO X6 hx hZ hown (hw _ (List.mem_of_getElem? (i := 2) rfl)) (hw _ (List.mem_of_getElem? (i := 3) rfl)) (hw _ (List.mem_of_getElem? (i := 4) rfl)) e6 (g := (mkF m 36 #[.val (.int p1), .val (.int p2), .val (.int p3), .val (.int ((1 : Int32) + ((p1 &&& (2147483647 : Int32)) % (1200 : Int32)))), .val (.ref b1), .unset] [])) rfl (hb hby at_36) (by decide) (by decide)
  obtain ⟨b9, gb9⟩ : ∃ z, z = h6.size := ⟨_, rfl⟩
  rw [← gb9] at A9 D9 st9
  refine own_st st9 ?_
  have Zs10 : n0 ≤ h9.size := Nat.le_trans Zs7 E9.1
  have g_b9 : n0 ≤ b9 := Nat.le_trans Zs7 (Nat.le_of_eq gb9.symm)
  have gh_b9 : h0.size ≤ b9 := Nat.le_trans K8.1 (Nat.le_of_eq gb9.symm)
  have ne_b1_b9 : b1 ≠ b9 := Nat.ne_of_lt (Nat.lt_of_lt_of_le Vw6.lt (Nat.le_of_eq gb9.symm))
  have F_coder_b9 : Fld Z h9 b9 "java/lang/String" "coder" "B" (.int (0 : Int32)) := D9 (Or.inr (hw _ (List.mem_of_getElem? (i := 28) rfl))) (ty := .byte) (by decide)
  have F_value_b9 : Fld Z h9 b9 "java/lang/String" "value" "[B" .null := D9 (Or.inr (hw _ (List.mem_of_getElem? (i := 30) rfl))) (ty := (.array .byte)) (by decide)
  show own_Gl _ _ _ _ _ _ _ (T9.setTop (mkF m 39 #[.val (.int p1), .val (.int p2), .val (.int p3), .val (.int ((1 : Int32) + ((p1 &&& (2147483647 : Int32)) % (1200 : Int32)))), .val (.ref b1), .unset] [(.ref b9)]))
  refine own_st (fun _ k => XS.dup X9.here hx rfl (hb hby at_39) rfl rfl k) ?_
  show own_Gl _ _ _ _ _ _ _ (T9.setTop (mkF m 40 #[.val (.int p1), .val (.int p2), .val (.int p3), .val (.int ((1 : Int32) + ((p1 &&& (2147483647 : Int32)) % (1200 : Int32)))), .val (.ref b1), .unset] [(.ref b9), (.ref b9)]))
  refine own_st (fun _ k => XS.aload X9.here hx rfl (hb hby at_40) rfl rfl k) ?_
  show own_Gl _ _ _ _ _ _ _ (T9.setTop (mkF m 42 #[.val (.int p1), .val (.int p2), .val (.int p3), .val (.int ((1 : Int32) + ((p1 &&& (2147483647 : Int32)) % (1200 : Int32)))), .val (.ref b1), .unset] [(.ref b1), (.ref b9), (.ref b9)]))
  have f13 := (Vw6.ext E9)
  have f14 := ((((Old0.ext E1).wr W4 g_b1).wr W6 g_b1).ext E9)
  obtain ⟨_, _, ⟨T12, L12, k12, n12⟩, -, X12, ⟨Lc12, hQ12, l12, y12, z12⟩, st12⟩ := X9.specialBack hx (y := (⟨"java/lang/String", "<init>", "([C)V"⟩ : MethodName)) rfl hown (mvT hZ (hw _ (List.mem_of_getElem? (i := 5) rfl))) (mvT hZ (hw _ (List.mem_of_getElem? (i := 6) rfl))) (mvT hZ (hw _ (List.mem_of_getElem? (i := 7) rfl))) (by decide) (backOf (W := 1) (own_i1_2_2 l Z a0 hw [] b9 b1 k1 (nar .char ((p2 &&& (255 : Int32)).toUInt32.toUInt16.toUInt32.toInt32)) (nar .char ((p3 &&& (255 : Int32)).toUInt32.toUInt16.toUInt32.toInt32)) cs h9 n0 Zs10 A9 F_value_b9 F_coder_b9 g_b9 (Ne.symm ne_b1_b9) f13 (own_c255 _) (own_c255 _) (S_COMPACT_STRINGS.ext f14.2) hcs) hZ (hw _ (List.mem_of_getElem? (i := 7) rfl)) (hw _ (List.mem_of_getElem? (i := 4) rfl)) (by decide) (by decide)) (g := (mkF m 42 #[.val (.int p1), .val (.int p2), .val (.int p3), .val (.int ((1 : Int32) + ((p1 &&& (2147483647 : Int32)) % (1200 : Int32)))), .val (.ref b1), .unset] [(.ref b1), (.ref b9), (.ref b9)])) rfl (by rw [hml]; rfl) (Steps.refl _) (a := b9) (argsL := [(.ref b1)]) (rest := [(.ref b9)]) (lenOf own_pd985728365 rfl) rfl (by show 2 * 0 + _ ≤ _; exact Nat.le_of_eq rfl) (hb hby at_42) (fun _ _ => ⟨rfl, e9, (by decide : 2 + 1 ≤ room_1.cells), (by decide : 6 + 2 ≤ room_1.slots)⟩)
  dsimp only [Pt.U, Pt.locs, Pt.cells, Pt.slots] at X12 l12 y12 z12 st12 hQ12
  subst l12 y12 z12
  obtain ⟨hh12, eh012⟩ : ∃ z, T12.heap = z := ⟨_, rfl⟩
  rw [eh012] at hQ12
  obtain ⟨r_12, kr_12, rfl, Nq12, Kq12, P12_0, P12_1, P12_2, P12_3, P12_4⟩ := hQ12
  have N12 := Fr.app N6 Nq12
  refine own_tr st12 ?_
  have K15 : Keep h0 h9 [] := (K8.ext E9)
  have Zs16 : n0 ≤ hh12.size := Nat.le_trans Zs10 Kq12.1
  have gh_r_12 : h0.size ≤ r_12 := Nat.le_trans K15.1 P12_1
  have ne_b1_r_12 : b1 ≠ r_12 := Nat.ne_of_lt (Nat.lt_of_lt_of_le f13.lt P12_1)
  have ne_b9_r_12 : b9 ≠ r_12 := Nat.ne_of_lt (Nat.lt_of_lt_of_le A9.lt P12_1)
  show own_Gl _ _ _ _ _ _ _ (T12.setTop (mkF m 45 #[.val (.int p1), .val (.int p2), .val (.int p3), .val (.int ((1 : Int32) + ((p1 &&& (2147483647 : Int32)) % (1200 : Int32)))), .val (.ref b1), .unset] [(.ref b9)]))
  refine own_st (fun _ k => XS.astore X12.here hx rfl (hb hby at_45) rfl rfl (l' := #[.val (.int p1), .val (.int p2), .val (.int p3), .val (.int ((1 : Int32) + ((p1 &&& (2147483647 : Int32)) % (1200 : Int32)))), .val (.ref b1), .val (.ref b9)]) rfl k) ?_
  show own_Gl _ _ _ _ _ _ _ (T12.setTop (mkF m 47 #[.val (.int p1), .val (.int p2), .val (.int p3), .val (.int ((1 : Int32) + ((p1 &&& (2147483647 : Int32)) % (1200 : Int32)))), .val (.ref b1), .val (.ref b9)] []))
  refine own_st (fun _ k => XS.aload X12.here hx rfl (hb hby at_47) rfl rfl k) ?_
  show own_Gl _ _ _ _ _ _ _ (T12.setTop (mkF m 49 #[.val (.int p1), .val (.int p2), .val (.int p3), .val (.int ((1 : Int32) + ((p1 &&& (2147483647 : Int32)) % (1200 : Int32)))), .val (.ref b1), .val (.ref b9)] [(.ref b9)]))
  refine own_st (fun _ k => XS.iloadN X12.here hx rfl (hb hby at_49) rfl k) ?_
  show own_Gl _ _ _ _ _ _ _ (T12.setTop (mkF m 50 #[.val (.int p1), .val (.int p2), .val (.int p3), .val (.int ((1 : Int32) + ((p1 &&& (2147483647 : Int32)) % (1200 : Int32)))), .val (.ref b1), .val (.ref b9)] [(.int ((1 : Int32) + ((p1 &&& (2147483647 : Int32)) % (1200 : Int32)))), (.ref b9)]))
  have f18 := (f13.keep Kq12 (ninS ne_b1_b9 nin0))
  have f19 := (A9.keep Kq12)
  obtain ⟨_, _, ⟨T17, L17, k17, n17⟩, -, X17, ⟨Lc17, hQ17, l17, y17, z17⟩, st17⟩ := Jvm.LawKit.callS X12 hx (y := (⟨"org/benli/core/Limits", "checkPeriods", "(Ljava/lang/String;I)V"⟩ : MethodName)) hown (mvT hZ (hw _ (List.mem_of_getElem? (i := 31) rfl))) (mvT hZ (hw _ (List.mem_of_getElem? (i := 32) rfl))) (mvT hZ (hw _ (List.mem_of_getElem? (i := 33) rfl))) (mvT hZ (hw _ (List.mem_of_getElem? (i := 34) rfl))) (by decide) (backOf (W := 0) (own_check l Z a0 hw [] b9 ((1 : Int32) + ((p1 &&& (2147483647 : Int32)) % (1200 : Int32))) hh12 n0 Zs16 (own_per p1).1 (own_per p1).2) hZ (hw _ (List.mem_of_getElem? (i := 34) rfl)) (hw _ (List.mem_of_getElem? (i := 33) rfl)) (by decide) (by decide)) (g := (mkF m 50 #[.val (.int p1), .val (.int p2), .val (.int p3), .val (.int ((1 : Int32) + ((p1 &&& (2147483647 : Int32)) % (1200 : Int32)))), .val (.ref b1), .val (.ref b9)] [(.int ((1 : Int32) + ((p1 &&& (2147483647 : Int32)) % (1200 : Int32)))), (.ref b9)])) rfl (by rw [hml]; rfl) (argsL := [(.ref b9), (.int ((1 : Int32) + ((p1 &&& (2147483647 : Int32)) % (1200 : Int32))))]) (rest := []) (lenOf own_pd529278456 rfl) rfl (by show 2 * 0 + _ ≤ _; exact Nat.le_of_eq rfl) (hb hby at_50) (fun _ _ => ⟨rfl, eh012, (by decide : 3 + 0 ≤ room_1.cells), (by decide : 8 + 0 ≤ room_1.slots)⟩)
  dsimp only [Pt.U, Pt.locs, Pt.cells, Pt.slots] at X17 l17 y17 z17 st17 hQ17
  subst l17 y17 z17
  obtain ⟨hh17, eh017⟩ : ∃ z, T17.heap = z := ⟨_, rfl⟩
  rw [eh017] at hQ17
  obtain ⟨rfl, Nq17, eh17⟩ := hQ17
  have N17 := Fr.app N12 Nq17
  refine own_st st17 ?_
  have e17 : T17.heap = hh12 := eh017.trans eh17
  show own_Gl _ _ _ _ _ _ _ (T17.setTop (mkF m 53 #[.val (.int p1), .val (.int p2), .val (.int p3), .val (.int ((1 : Int32) + ((p1 &&& (2147483647 : Int32)) % (1200 : Int32)))), .val (.ref b1), .val (.ref b9)] []))
  refine own_st (fun _ k => XS.iloadN X17.here hx rfl (hb hby at_53) rfl k) ?_
  show own_Gl _ _ _ _ _ _ _ (T17.setTop (mkF m 54 #[.val (.int p1), .val (.int p2), .val (.int p3), .val (.int ((1 : Int32) + ((p1 &&& (2147483647 : Int32)) % (1200 : Int32)))), .val (.ref b1), .val (.ref b9)] [(.int ((1 : Int32) + ((p1 &&& (2147483647 : Int32)) % (1200 : Int32))))]))
  refine own_st (fun _ k => XS.iconst X17.here hx rfl (hb hby at_54) k) ?_
  show own_Gl _ _ _ _ _ _ _ (T17.setTop (mkF m 55 #[.val (.int p1), .val (.int p2), .val (.int p3), .val (.int ((1 : Int32) + ((p1 &&& (2147483647 : Int32)) % (1200 : Int32)))), .val (.ref b1), .val (.ref b9)] [(.int (1 : Int32)), (.int ((1 : Int32) + ((p1 &&& (2147483647 : Int32)) % (1200 : Int32))))]))
  have hd20 : ¬ (((1 : Int32) + ((p1 &&& (2147483647 : Int32)) % (1200 : Int32))) < (1 : Int32)) := (own_per p1).1
  refine own_st (fun _ k => XS.icmpNo X17.here hx rfl (hb hby at_55) rfl (flt hd20).1 k) ?_
  show own_Gl _ _ _ _ _ _ _ (T17.setTop (mkF m 58 #[.val (.int p1), .val (.int p2), .val (.int p3), .val (.int ((1 : Int32) + ((p1 &&& (2147483647 : Int32)) % (1200 : Int32)))), .val (.ref b1), .val (.ref b9)] []))
  refine own_st (fun _ k => XS.iloadN X17.here hx rfl (hb hby at_58) rfl k) ?_
  show own_Gl _ _ _ _ _ _ _ (T17.setTop (mkF m 59 #[.val (.int p1), .val (.int p2), .val (.int p3), .val (.int ((1 : Int32) + ((p1 &&& (2147483647 : Int32)) % (1200 : Int32)))), .val (.ref b1), .val (.ref b9)] [(.int ((1 : Int32) + ((p1 &&& (2147483647 : Int32)) % (1200 : Int32))))]))
  refine own_st (fun _ k => XS.sipush X17.here hx rfl (hb hby at_59) k) ?_
  show own_Gl _ _ _ _ _ _ _ (T17.setTop (mkF m 62 #[.val (.int p1), .val (.int p2), .val (.int p3), .val (.int ((1 : Int32) + ((p1 &&& (2147483647 : Int32)) % (1200 : Int32)))), .val (.ref b1), .val (.ref b9)] [(.int (1200 : Int32)), (.int ((1 : Int32) + ((p1 &&& (2147483647 : Int32)) % (1200 : Int32))))]))
  have hd21 : ¬ ((1200 : Int32) < ((1 : Int32) + ((p1 &&& (2147483647 : Int32)) % (1200 : Int32)))) := (own_per p1).2
  refine own_st (fun _ k => XS.icmpNo X17.here hx rfl (hb hby at_62) rfl (flt hd21).2.2.1 k) ?_
  show own_Gl _ _ _ _ _ _ _ (T17.setTop (mkF m 65 #[.val (.int p1), .val (.int p2), .val (.int p3), .val (.int ((1 : Int32) + ((p1 &&& (2147483647 : Int32)) % (1200 : Int32)))), .val (.ref b1), .val (.ref b9)] []))
  refine own_st (fun _ k => XS.iconst X17.here hx rfl (hb hby at_65) k) ?_
  show own_Gl _ _ _ _ _ _ _ (T17.setTop (mkF m 66 #[.val (.int p1), .val (.int p2), .val (.int p3), .val (.int ((1 : Int32) + ((p1 &&& (2147483647 : Int32)) % (1200 : Int32)))), .val (.ref b1), .val (.ref b9)] [(.int (1 : Int32))]))
  refine own_st (fun _ k => XS.goto X17.here hx rfl (pc0 := 66) (pc' := 70) rfl (hb hby at_66) (by decide) (by decide) k) ?_
  show own_Gl _ _ _ _ _ _ _ (T17.setTop (mkF m 70 #[.val (.int p1), .val (.int p2), .val (.int p3), .val (.int ((1 : Int32) + ((p1 &&& (2147483647 : Int32)) % (1200 : Int32)))), .val (.ref b1), .val (.ref b9)] [(.int (1 : Int32))]))
  exact own_retN X17 hx hlk (t := .boolean) hret (by simp) (hb hby at_70) e17 ⟨rfl, N17⟩ (by decide) (by decide)
set_option maxRecDepth 65536 in
set_option maxHeartbeats 40000000 in
theorem comes_1 {Post : Tables → Env → Array Value → State → Outcome → State → Prop} (hpost : ∀ tb e args s v u, (limb_1_1.after args s (.returned v) u = true ∧ limb_1_2.after args s (.returned v) u = true ∧ True) → FrameEnd s (.returned v) u (Jvm.fieldLocs frame_1_writes args s ++ Jvm.arrayLocs frame_1_arrays args s ++ Jvm.staticLocs frame_1_statics s) 16 128 → Post tb e args s (.returned v) u) :
    ArmFor flags0 classFile x code maxLocals ret World_1 tables_1 room_1 Calls_1 rest_1 Pre_1 Post := by
  intro l hfl _ _ p e ha hc hk s m args below hf hA hF happ hP
  obtain ⟨hcalls, hrest, hpre⟩ := hP
  obtain ⟨-, -, -, hnamed, -, -, -, hat⟩ := (Spec.applies_iff hf).mp happ
  obtain ⟨hg, hn⟩ := and_e (Cond.before_iff.mp (show (Jvm.Cond.and given_1 narrow_1).before args s = true from hpre))
  obtain ⟨gg1, gg2⟩ := and_e hg
  obtain ⟨gg3, gg4⟩ := and_e gg2
  obtain ⟨gg5, gg6⟩ := and_e gg4
  obtain ⟨w0, w1, w2, rfl⟩ : ∃ w0 w1 w2 : Value, args = #[w0, w1, w2] := by
    have hs : args.size = 3 := by simpa [Cond.value, given_1] using gg1
    obtain ⟨L⟩ := args
    match L, hs with
    | [w0, w1, w2], _ => exact ⟨w0, w1, w2, rfl⟩
  have hw := fun d (hd : d ∈ tables_1) => atoms_spec (ws := Jvm.Cond.code x code maxLocals ret :: tables_1) hat d (List.mem_cons_of_mem _ hd)
  have hfit : Fit s := fun {y c} hc i hi => by
    obtain ⟨ha, rfl⟩ := Array.getElem?_eq_some_iff.mp hc
    have q := List.all_eq_true.mp ((Array.all_eq_true_iff_forall_mem.mp hF) _ (Array.getElem_mem ha)) i (List.mem_range.mpr hi)
    simpa [Array.getElem?_eq_getElem hi] using q
  obtain ⟨hsets, hown0⟩ := atoms_of _ (rest_1_c_eq ▸ (show rest_1_c.before _ s = true from hrest))
  have hr0 := Cond.before_iff.mp hown0
  obtain ⟨i0, ei0⟩ := is_v gg3
  obtain rfl : w0 = (.int i0) := Option.some.inj ei0
  obtain ⟨i1, ei1⟩ := is_v gg5
  obtain rfl : w1 = (.int i1) := Option.some.inj ei1
  obtain ⟨i2, ei2⟩ := is_v gg6
  obtain rfl : w2 = (.int i2) := Option.some.inj ei2
  obtain ⟨cs, ev_cs⟩ := is_v (Cond.before_iff.mp (hsets _ (List.mem_of_getElem? (i := 1) rfl)))
  have xs_cs := Sta.start ev_cs (Or.inl (hsets _ (List.mem_of_getElem? (i := 0) rfl)))
  have xcs : ¬ (cs = (0 : Int32)) := gotF (Cond.eq_ints ev_cs (Term.int_eval 0)) (not_v (Cond.before_iff.mp (hsets _ (List.mem_of_getElem? (i := 2) rfl))))
  obtain ⟨n, o, h1, h2, h3, _, L, rfl, ⟨rfl, N⟩, hq⟩ := own_law l s _ hw tables_1 i0 i1 i2 cs s.heap s.heap.size (Nat.le_refl _) (Old.start s) xs_cs xcs p e ha hc hk s m _ below hf ((Spec.applies_iff_loose hf).mp happ).1 ⟨rfl, State.Warmed39.refl s, rfl⟩ trivial
  refine ⟨n, _, h1, h2, h3, hpost _ _ _ _ _ _ ⟨Cond.after_iff.mpr rfl, Cond.after_iff.mpr (eq_i res_at (Term.int_eval (1)) rfl), trivial⟩ ⟨hq.1, hq.2.1, (hq.2.2.sift fun y hy => Or.inr (N y hy)).mono (by decide) (by decide)⟩⟩
theorem main_1_1 : Claimed_1_1 := comes_1 fun _ _ _ _ _ _ h hF => ⟨h.1, hF⟩
theorem main_1_2 : Claimed_1_2 := comes_1 fun _ _ _ _ _ _ h hF => ⟨h.2.1, hF⟩

end Jvm.Pilot.@@N@@
namespace Jvm.Pilot.@@N@@
open Jvm Jvm.ClassFile Sem Op Lib Jvm.Free Jvm.Stand Jvm.Pilot.@@N@@.Jvm.D
/-! MADE BY PROGRAM (witnessworld.py) out of the Statement's table words and the real class files: 20 classes; the members and pool entries that the words name. The judged class is class 1, her method 1. -/
namespace start1
open Jvm.ClassFile
def u (s : String) : CpInfo := .utf8 (stringToUtf16 s)
/-- a pool by its gaps: so many unusable entries, then the entry; so many at the end -/
def gap : Nat → List CpInfo → List CpInfo
  | 0, r => r
  | n + 1, r => .unusable :: gap n r
def poolList (es : List (Nat × CpInfo)) (last : Nat) : List CpInfo := es.foldr (fun e r => gap e.1 (e.2 :: r)) (gap last [])
def pool (es : List (Nat × CpInfo)) (last : Nat) : Array CpInfo := ⟨poolList es last⟩
def fileOf (pool : Array CpInfo) (this : Nat) (attrs : Array Attribute := #[]) (ms : Array MethodInfo := #[]) (fl : Nat := 33) (sup : Nat := 0) (ifs : Array Nat := #[]) (fds : Array FieldInfo := #[]) : ClassFile where
  minorVersion := 0
  majorVersion := 65
  constantPool := pool
  accessFlags := fl
  thisClass := this
  superClass := sup
  interfaces := ifs
  fields := fds
  methods := ms
  attributes := attrs
def plain (name : String) (sup : Option ClassId) : Class where
  name := name
  kind := .ordinary
  loader := none
  accessFlags := 33
  super := sup
  interfaces := #[]
  cf := none
  fields := #[]
  methods := #[]
  instanceTypes := #[]
  staticTypes := #[]
  resolved := #[]
  callSites := []
  init := .initialized
  statics := none
  mirror := none

def pool0 : Array CpInfo := pool [(5, u "<init>"), (0, u "()V"), (1, .class_ 10), (1, u "java/lang/Object")] 113

def k0c0 : Code := { maxStack := 0, maxLocals := 1, code := object_method_1_code, exceptionTable := #[], attributes := #[] }
def k0m0 : Method := { name := "<init>", desc := "()V", sig := { parameters := [], returnType := none }, accessFlags := 1, code := some k0c0 }
/-- java/lang/Object -/
def k0 : Class := { plain "java/lang/Object" none with
  accessFlags := 33
  interfaces := #[]
  cf := some (fileOf pool0 8 #[] #[{ accessFlags := 1, nameIndex := 5, descriptorIndex := 6, attributes := #[] }] 33 0 #[] #[])
  fields := #[]
  methods := #[k0m0]
  instanceTypes := #[]
  staticTypes := #[]
  resolved := Array.replicate 124 none
  statics := none }

def pool1 : Array CpInfo := pool [(2, .class_ 4), (1, u "java/lang/Object"), (0, u "<init>"), (0, u "()V"), (0, .integer 2147483647), (0, .class_ 9), (0, u "org/benli/core/Limits"), (0, .class_ 11), (0, u "java/lang/String"), (0, .methodref 10 13), (0, .nameAndType 5 14), (0, u "([C)V"), (0, .methodref 8 16), (0, .nameAndType 17 18), (0, u "checkPeriods"), (0, u "(Ljava/lang/String;I)V"), (0, .class_ 20), (0, u "org/benli/core/LimitsCheckPeriodsPinLaw"), (2, u "law"), (0, u "(III)Z")] 5

def k1m0 : Method := { name := "<init>", desc := "()V", sig := { parameters := [], returnType := none }, accessFlags := 2, code := none }
def k1c1 : Code := { maxStack := 4, maxLocals := 6, code := code, exceptionTable := #[], attributes := #[] }
def k1m1 : Method := { name := "law", desc := "(III)Z", sig := { parameters := [.int, .int, .int], returnType := some .boolean }, accessFlags := 9, code := some k1c1 }
/-- org/benli/core/LimitsCheckPeriodsPinLaw -/
def k1 : Class := { plain "org/benli/core/LimitsCheckPeriodsPinLaw" (some 0) with
  accessFlags := 49
  interfaces := #[]
  cf := some (fileOf pool1 19 #[] #[{ accessFlags := 2, nameIndex := 5, descriptorIndex := 6, attributes := #[] }, { accessFlags := 9, nameIndex := 23, descriptorIndex := 24, attributes := #[] }] 49 2 #[] #[])
  fields := #[]
  methods := #[k1m0, k1m1]
  instanceTypes := #[]
  staticTypes := #[]
  resolved := Array.replicate 30 none
  statics := none }

def pool2 : Array CpInfo := pool [(1, .class_ 2), (0, u "java/io/Serializable"), (0, .class_ 4), (0, u "java/lang/Object")] 2

/-- java/io/Serializable -/
def k2 : Class := { plain "java/io/Serializable" (some 0) with
  accessFlags := 1537
  interfaces := #[]
  cf := some (fileOf pool2 1 #[] #[] 1537 3 #[] #[])
  fields := #[]
  methods := #[]
  instanceTypes := #[]
  staticTypes := #[]
  resolved := Array.replicate 7 none
  statics := none }

def pool3 : Array CpInfo := pool [(1, .class_ 2), (0, u "java/lang/Comparable"), (0, .class_ 4), (0, u "java/lang/Object")] 7

/-- java/lang/Comparable -/
def k3 : Class := { plain "java/lang/Comparable" (some 0) with
  accessFlags := 1537
  interfaces := #[]
  cf := some (fileOf pool3 1 #[] #[] 1537 3 #[] #[])
  fields := #[]
  methods := #[]
  instanceTypes := #[]
  staticTypes := #[]
  resolved := Array.replicate 12 none
  statics := none }

def pool4 : Array CpInfo := pool [(2, .class_ 4), (1, u "java/lang/CharSequence"), (42, .class_ 48), (0, u "java/lang/CharSequence$1CodePointIterator"), (10, .class_ 60), (0, u "java/lang/CharSequence$1CharIterator"), (5, .class_ 67), (0, u "java/lang/Object")] 63

/-- java/lang/CharSequence -/
def k4 : Class := { plain "java/lang/CharSequence" (some 0) with
  accessFlags := 1537
  interfaces := #[]
  cf := some (fileOf pool4 2 #[.nestMembers #[47, 59]] #[] 1537 66 #[] #[])
  fields := #[]
  methods := #[]
  instanceTypes := #[]
  staticTypes := #[]
  resolved := Array.replicate 131 none
  statics := none }

def pool5 : Array CpInfo := pool [(1, .class_ 2), (0, u "java/lang/constant/Constable"), (0, .class_ 4), (0, u "java/lang/Object")] 6

/-- java/lang/constant/Constable -/
def k5 : Class := { plain "java/lang/constant/Constable" (some 0) with
  accessFlags := 1537
  interfaces := #[]
  cf := some (fileOf pool5 1 #[] #[] 1537 3 #[] #[])
  fields := #[]
  methods := #[]
  instanceTypes := #[]
  staticTypes := #[]
  resolved := Array.replicate 11 none
  statics := none }

def pool6 : Array CpInfo := pool [(1, .class_ 2), (0, u "java/lang/constant/ConstantDesc"), (0, .class_ 4), (0, u "java/lang/Object")] 32

/-- java/lang/constant/ConstantDesc -/
def k6 : Class := { plain "java/lang/constant/ConstantDesc" (some 0) with
  accessFlags := 1537
  interfaces := #[]
  cf := some (fileOf pool6 1 #[] #[] 1537 3 #[] #[])
  fields := #[]
  methods := #[]
  instanceTypes := #[]
  staticTypes := #[]
  resolved := Array.replicate 37 none
  statics := none }

def pool7 : Array CpInfo := pool [(1, .methodref 2 3), (0, .class_ 4), (0, .nameAndType 5 6), (0, u "java/lang/Object"), (0, u "<init>"), (0, u "()V"), (2, .fieldref 10 11), (0, .class_ 12), (0, .nameAndType 13 14), (0, u "java/lang/String"), (0, u "value"), (0, u "[B"), (0, .fieldref 10 16), (0, .nameAndType 17 18), (0, u "coder"), (0, u "B"), (2, u "hash"), (0, u "I"), (2, u "hashIsZero"), (0, u "Z"), (0, .methodref 10 28), (0, .nameAndType 5 29), (0, u "([CIILjava/lang/Void;)V"), (8, .fieldref 10 39), (0, .nameAndType 40 26), (0, u "COMPACT_STRINGS"), (1, .class_ 44), (1, u "java/lang/StringUTF16"), (0, u "compress"), (1, .methodref 42 48), (0, .nameAndType 49 50), (0, u "coderFromArrayLen"), (0, u "([BI)B"), (126, .methodref 42 178), (0, .nameAndType 45 179), (0, u "([CII)[B"), (395, .class_ 576), (0, u "java/lang/CharSequence"), (22, u "CASE_INSENSITIVE_ORDER"), (0, u "Ljava/util/Comparator;"), (409, u "([C)V"), (90, u "serialPersistentFields"), (0, u "[Ljava/io/ObjectStreamField;"), (0, .class_ 1104), (0, u "java/lang/String$CaseInsensitiveComparator"), (1, .class_ 1107), (0, u "java/io/Serializable"), (0, .class_ 1109), (0, u "java/lang/Comparable"), (0, .class_ 1111), (0, u "java/lang/constant/Constable"), (0, .class_ 1113), (0, u "java/lang/constant/ConstantDesc"), (2, u "serialVersionUID"), (0, u "J"), (3, u "REPL"), (0, u "C"), (2, u "LATIN1"), (1, u "UTF16")] 323

def k7m0 : Method := { name := "<init>", desc := "()V", sig := { parameters := [], returnType := none }, accessFlags := 1, code := none }
def k7c1 : Code := { maxStack := 5, maxLocals := 2, code := jdk_42_method_3_code, exceptionTable := #[], attributes := #[] }
def k7m1 : Method := { name := "<init>", desc := "([C)V", sig := { parameters := [(.array .char)], returnType := none }, accessFlags := 1, code := some k7c1 }
def k7c2 : Code := { maxStack := 4, maxLocals := 6, code := jdk_42_method_149_code, exceptionTable := #[], attributes := #[] }
def k7m2 : Method := { name := "<init>", desc := "([CIILjava/lang/Void;)V", sig := { parameters := [(.array .char), .int, .int, (.object "java/lang/Void")], returnType := none }, accessFlags := 2, code := some k7c2 }
/-- java/lang/String -/
def k7 : Class := { plain "java/lang/String" (some 0) with
  accessFlags := 49
  interfaces := #[2, 3, 4, 5, 6]
  cf := some (fileOf pool7 10 #[.nestMembers #[1103]] #[{ accessFlags := 1, nameIndex := 5, descriptorIndex := 6, attributes := #[] }, { accessFlags := 1, nameIndex := 5, descriptorIndex := 1010, attributes := #[] }, { accessFlags := 2, nameIndex := 5, descriptorIndex := 29, attributes := #[] }] 49 2 #[1106, 1108, 575, 1110, 1112] #[{ accessFlags := 18, nameIndex := 13, descriptorIndex := 14, attributes := #[] }, { accessFlags := 18, nameIndex := 17, descriptorIndex := 18, attributes := #[] }, { accessFlags := 2, nameIndex := 21, descriptorIndex := 22, attributes := #[] }, { accessFlags := 2, nameIndex := 25, descriptorIndex := 26, attributes := #[] }, { accessFlags := 26, nameIndex := 1116, descriptorIndex := 1117, attributes := #[] }, { accessFlags := 24, nameIndex := 40, descriptorIndex := 26, attributes := #[] }, { accessFlags := 26, nameIndex := 1101, descriptorIndex := 1102, attributes := #[] }, { accessFlags := 26, nameIndex := 1121, descriptorIndex := 1122, attributes := #[] }, { accessFlags := 25, nameIndex := 599, descriptorIndex := 600, attributes := #[] }, { accessFlags := 24, nameIndex := 1125, descriptorIndex := 18, attributes := #[] }, { accessFlags := 24, nameIndex := 1127, descriptorIndex := 18, attributes := #[] }])
  fields := #[{ name := "value", type := (.array .byte), accessFlags := 18, slot := 0, constantValue := 0 }, { name := "coder", type := .byte, accessFlags := 18, slot := 1, constantValue := 0 }, { name := "hash", type := .int, accessFlags := 2, slot := 2, constantValue := 0 }, { name := "hashIsZero", type := .boolean, accessFlags := 2, slot := 3, constantValue := 0 }, { name := "serialVersionUID", type := .long, accessFlags := 26, slot := 0, constantValue := 0 }, { name := "COMPACT_STRINGS", type := .boolean, accessFlags := 24, slot := 1, constantValue := 0 }, { name := "serialPersistentFields", type := (.array (.object "java/io/ObjectStreamField")), accessFlags := 26, slot := 2, constantValue := 0 }, { name := "REPL", type := .char, accessFlags := 26, slot := 3, constantValue := 0 }, { name := "CASE_INSENSITIVE_ORDER", type := (.object "java/util/Comparator"), accessFlags := 25, slot := 4, constantValue := 0 }, { name := "LATIN1", type := .byte, accessFlags := 24, slot := 5, constantValue := 0 }, { name := "UTF16", type := .byte, accessFlags := 24, slot := 6, constantValue := 0 }]
  methods := #[k7m0, k7m1, k7m2]
  instanceTypes := #[(.array .byte), .byte, .int, .boolean]
  staticTypes := #[.long, .boolean, (.array (.object "java/io/ObjectStreamField")), .char, (.object "java/util/Comparator"), .byte, .byte]
  resolved := Array.replicate 1451 none
  statics := some 0 }

def pool8 : Array CpInfo := pool [(6, .class_ 8), (1, u "java/lang/Object"), (0, u "<init>"), (0, u "()V"), (1, .class_ 14), (1, u "java/lang/StringUTF16"), (31, u "$assertionsDisabled"), (0, u "Z"), (13, u "HI_BYTE_SHIFT"), (0, u "I"), (2, u "LO_BYTE_SHIFT"), (49, .methodref 12 116), (0, .nameAndType 117 118), (0, u "compress"), (0, u "([CI[BII)I"), (3, u "([CII)[B"), (138, u "coderFromArrayLen"), (0, u "([BI)B"), (106, .class_ 371), (1, u "java/lang/StringUTF16$LinesSpliterator"), (58, u "MAX_LENGTH"), (196, .class_ 628), (0, u "java/lang/StringUTF16$CodePointsSpliterator"), (0, .class_ 630), (0, u "java/lang/StringUTF16$CharsSpliterator")] 4

def k8m0 : Method := { name := "<init>", desc := "()V", sig := { parameters := [], returnType := none }, accessFlags := 0, code := none }
def k8c1 : Code := { maxStack := 2, maxLocals := 2, code := jdk_52_method_15_code, exceptionTable := #[], attributes := #[] }
def k8m1 : Method := { name := "coderFromArrayLen", desc := "([BI)B", sig := { parameters := [(.array .byte), .int], returnType := some .byte }, accessFlags := 8, code := some k8c1 }
def k8c2 : Code := { maxStack := 5, maxLocals := 6, code := jdk_52_method_16_code, exceptionTable := #[], attributes := #[] }
def k8m2 : Method := { name := "compress", desc := "([CII)[B", sig := { parameters := [(.array .char), .int, .int], returnType := some (.array .byte) }, accessFlags := 9, code := some k8c2 }
def k8c3 : Code := { maxStack := 3, maxLocals := 7, code := jdk_52_method_21_code, exceptionTable := #[], attributes := #[] }
def k8m3 : Method := { name := "compress", desc := "([CI[BII)I", sig := { parameters := [(.array .char), .int, (.array .byte), .int, .int], returnType := some .int }, accessFlags := 9, code := some k8c3 }
/-- java/lang/StringUTF16 -/
def k8 : Class := { plain "java/lang/StringUTF16" (some 0) with
  accessFlags := 48
  interfaces := #[]
  cf := some (fileOf pool8 12 #[.nestMembers #[627, 629, 369]] #[{ accessFlags := 0, nameIndex := 9, descriptorIndex := 10, attributes := #[] }, { accessFlags := 8, nameIndex := 261, descriptorIndex := 262, attributes := #[] }, { accessFlags := 9, nameIndex := 117, descriptorIndex := 122, attributes := #[] }, { accessFlags := 9, nameIndex := 117, descriptorIndex := 118, attributes := #[] }] 48 6 #[] #[{ accessFlags := 26, nameIndex := 61, descriptorIndex := 62, attributes := #[] }, { accessFlags := 26, nameIndex := 65, descriptorIndex := 62, attributes := #[] }, { accessFlags := 24, nameIndex := 430, descriptorIndex := 62, attributes := #[] }, { accessFlags := 4120, nameIndex := 46, descriptorIndex := 47, attributes := #[] }])
  fields := #[{ name := "HI_BYTE_SHIFT", type := .int, accessFlags := 26, slot := 0, constantValue := 0 }, { name := "LO_BYTE_SHIFT", type := .int, accessFlags := 26, slot := 1, constantValue := 0 }, { name := "MAX_LENGTH", type := .int, accessFlags := 24, slot := 2, constantValue := 0 }, { name := "$assertionsDisabled", type := .boolean, accessFlags := 4120, slot := 3, constantValue := 0 }]
  methods := #[k8m0, k8m1, k8m2, k8m3]
  instanceTypes := #[]
  staticTypes := #[.int, .int, .int, .boolean]
  resolved := Array.replicate 635 none
  statics := none }

def pool9 : Array CpInfo := pool [(2, .class_ 4), (1, u "java/lang/Object"), (0, u "<init>"), (0, u "()V"), (7, .class_ 16), (1, u "org/benli/core/Limits"), (0, u "MAX_AMOUNT_FRACTION"), (0, u "Lorg/benli/core/Fraction;"), (10, u "MAX_AMOUNT_VALUE"), (0, u "Ljava/math/BigDecimal;"), (8, u "MIN_PRINCIPAL_VALUE"), (38, u "MAX_AMOUNT"), (0, u "Ljava/lang/String;"), (1, u "MIN_PRINCIPAL"), (0, u "MAX_PERIODS"), (0, u "I"), (9, u "checkPeriods"), (0, u "(Ljava/lang/String;I)V")] 28

def k9m0 : Method := { name := "<init>", desc := "()V", sig := { parameters := [], returnType := none }, accessFlags := 2, code := none }
def k9c1 : Code := { maxStack := 4, maxLocals := 2, code := prog_30_method_5_code, exceptionTable := #[], attributes := #[] }
def k9m1 : Method := { name := "checkPeriods", desc := "(Ljava/lang/String;I)V", sig := { parameters := [(.object "java/lang/String"), .int], returnType := none }, accessFlags := 9, code := some k9c1 }
/-- org/benli/core/Limits -/
def k9 : Class := { plain "org/benli/core/Limits" (some 0) with
  accessFlags := 49
  interfaces := #[]
  cf := some (fileOf pool9 14 #[] #[{ accessFlags := 2, nameIndex := 5, descriptorIndex := 6, attributes := #[] }, { accessFlags := 9, nameIndex := 93, descriptorIndex := 94, attributes := #[] }] 49 2 #[] #[{ accessFlags := 25, nameIndex := 78, descriptorIndex := 79, attributes := #[] }, { accessFlags := 25, nameIndex := 81, descriptorIndex := 79, attributes := #[] }, { accessFlags := 25, nameIndex := 82, descriptorIndex := 83, attributes := #[] }, { accessFlags := 26, nameIndex := 29, descriptorIndex := 30, attributes := #[] }, { accessFlags := 26, nameIndex := 17, descriptorIndex := 18, attributes := #[] }, { accessFlags := 26, nameIndex := 39, descriptorIndex := 30, attributes := #[] }])
  fields := #[{ name := "MAX_AMOUNT", type := (.object "java/lang/String"), accessFlags := 25, slot := 0, constantValue := 0 }, { name := "MIN_PRINCIPAL", type := (.object "java/lang/String"), accessFlags := 25, slot := 1, constantValue := 0 }, { name := "MAX_PERIODS", type := .int, accessFlags := 25, slot := 2, constantValue := 0 }, { name := "MAX_AMOUNT_VALUE", type := (.object "java/math/BigDecimal"), accessFlags := 26, slot := 3, constantValue := 0 }, { name := "MAX_AMOUNT_FRACTION", type := (.object "org/benli/core/Fraction"), accessFlags := 26, slot := 4, constantValue := 0 }, { name := "MIN_PRINCIPAL_VALUE", type := (.object "java/math/BigDecimal"), accessFlags := 26, slot := 5, constantValue := 0 }]
  methods := #[k9m0, k9m1]
  instanceTypes := #[]
  staticTypes := #[(.object "java/lang/String"), (.object "java/lang/String"), .int, (.object "java/math/BigDecimal"), (.object "org/benli/core/Fraction"), (.object "java/math/BigDecimal")]
  resolved := Array.replicate 123 none
  statics := none }

def pool10 : Array CpInfo := pool [(4, .class_ 6), (1, u "java/lang/Object"), (0, u "<init>"), (0, u "()V"), (5, .class_ 16), (1, u "java/lang/StringLatin1"), (104, u "$assertionsDisabled"), (0, u "Z"), (98, .class_ 223), (1, u "java/lang/StringLatin1$LinesSpliterator"), (166, .class_ 391), (0, u "java/lang/StringLatin1$CharsSpliterator")] 3

def k10m0 : Method := { name := "<init>", desc := "()V", sig := { parameters := [], returnType := none }, accessFlags := 0, code := none }
/-- java/lang/StringLatin1 -/
def k10 : Class := { plain "java/lang/StringLatin1" (some 0) with
  accessFlags := 48
  interfaces := #[]
  cf := some (fileOf pool10 14 #[.nestMembers #[390, 221]] #[{ accessFlags := 0, nameIndex := 7, descriptorIndex := 8, attributes := #[] }] 48 4 #[] #[{ accessFlags := 4120, nameIndex := 121, descriptorIndex := 122, attributes := #[] }])
  fields := #[{ name := "$assertionsDisabled", type := .boolean, accessFlags := 4120, slot := 0, constantValue := 0 }]
  methods := #[k10m0]
  instanceTypes := #[]
  staticTypes := #[.boolean]
  resolved := Array.replicate 395 none
  statics := none }

def pool11 : Array CpInfo := pool [(2, .class_ 4), (1, u "java/lang/Object"), (0, u "<init>"), (0, u "()V"), (17, .class_ 26), (1, u "jdk/internal/util/Preconditions"), (28, .class_ 56), (0, u "jdk/internal/util/Preconditions$4"), (57, .class_ 115), (0, u "jdk/internal/util/Preconditions$1"), (7, u "SIOOBE_FORMATTER"), (0, u "Ljava/util/function/BiFunction;"), (0, .class_ 126), (0, u "jdk/internal/util/Preconditions$2"), (3, u "AIOOBE_FORMATTER"), (0, .class_ 132), (0, u "jdk/internal/util/Preconditions$3"), (3, u "IOOBE_FORMATTER")] 57

def k11m0 : Method := { name := "<init>", desc := "()V", sig := { parameters := [], returnType := none }, accessFlags := 1, code := none }
/-- jdk/internal/util/Preconditions -/
def k11 : Class := { plain "jdk/internal/util/Preconditions" (some 0) with
  accessFlags := 33
  interfaces := #[]
  cf := some (fileOf pool11 24 #[.nestMembers #[55, 131, 125, 114]] #[{ accessFlags := 1, nameIndex := 5, descriptorIndex := 6, attributes := #[] }] 33 2 #[] #[{ accessFlags := 25, nameIndex := 123, descriptorIndex := 124, attributes := #[] }, { accessFlags := 25, nameIndex := 130, descriptorIndex := 124, attributes := #[] }, { accessFlags := 25, nameIndex := 136, descriptorIndex := 124, attributes := #[] }])
  fields := #[{ name := "SIOOBE_FORMATTER", type := (.object "java/util/function/BiFunction"), accessFlags := 25, slot := 0, constantValue := 0 }, { name := "AIOOBE_FORMATTER", type := (.object "java/util/function/BiFunction"), accessFlags := 25, slot := 1, constantValue := 0 }, { name := "IOOBE_FORMATTER", type := (.object "java/util/function/BiFunction"), accessFlags := 25, slot := 2, constantValue := 0 }]
  methods := #[k11m0]
  instanceTypes := #[]
  staticTypes := #[(.object "java/util/function/BiFunction"), (.object "java/util/function/BiFunction"), (.object "java/util/function/BiFunction")]
  resolved := Array.replicate 194 none
  statics := some 1 }

def pool12 : Array CpInfo := pool [(9, u "<init>"), (6, .class_ 18), (1, u "java/lang/Object"), (0, u "()V"), (1, .class_ 23), (1, u "jdk/internal/util/ArraysSupport"), (0, u "LOG2_ARRAY_LONG_INDEX_SCALE"), (0, u "I"), (2, u "U"), (0, u "Ljdk/internal/misc/Unsafe;"), (8, u "BIG_ENDIAN"), (0, u "Z"), (8, u "LOG2_BYTE_BIT_SIZE"), (4, u "LOG2_ARRAY_INT_INDEX_SCALE"), (54, u "JLA"), (0, u "Ljdk/internal/access/JavaLangAccess;"), (11, u "LOG2_ARRAY_BOOLEAN_INDEX_SCALE"), (9, u "LOG2_ARRAY_BYTE_INDEX_SCALE"), (5, u "LOG2_ARRAY_CHAR_INDEX_SCALE"), (5, u "LOG2_ARRAY_SHORT_INDEX_SCALE"), (18, u "LOG2_ARRAY_FLOAT_INDEX_SCALE"), (24, u "LOG2_ARRAY_DOUBLE_INDEX_SCALE"), (89, u "T_BOOLEAN"), (2, u "T_CHAR"), (1, u "T_FLOAT"), (1, u "T_DOUBLE"), (1, u "T_BYTE"), (1, u "T_SHORT"), (1, u "T_INT"), (1, u "T_LONG"), (1, u "SOFT_MAX_ARRAY_LENGTH")] 83

def k12m0 : Method := { name := "<init>", desc := "()V", sig := { parameters := [], returnType := none }, accessFlags := 2, code := none }
/-- jdk/internal/util/ArraysSupport -/
def k12 : Class := { plain "jdk/internal/util/ArraysSupport" (some 0) with
  accessFlags := 33
  interfaces := #[]
  cf := some (fileOf pool12 21 #[] #[{ accessFlags := 2, nameIndex := 9, descriptorIndex := 19, attributes := #[] }] 33 16 #[] #[{ accessFlags := 24, nameIndex := 28, descriptorIndex := 29, attributes := #[] }, { accessFlags := 26, nameIndex := 38, descriptorIndex := 39, attributes := #[] }, { accessFlags := 25, nameIndex := 121, descriptorIndex := 25, attributes := #[] }, { accessFlags := 25, nameIndex := 131, descriptorIndex := 25, attributes := #[] }, { accessFlags := 25, nameIndex := 137, descriptorIndex := 25, attributes := #[] }, { accessFlags := 25, nameIndex := 143, descriptorIndex := 25, attributes := #[] }, { accessFlags := 25, nameIndex := 53, descriptorIndex := 25, attributes := #[] }, { accessFlags := 25, nameIndex := 24, descriptorIndex := 25, attributes := #[] }, { accessFlags := 25, nameIndex := 162, descriptorIndex := 25, attributes := #[] }, { accessFlags := 25, nameIndex := 187, descriptorIndex := 25, attributes := #[] }, { accessFlags := 26, nameIndex := 48, descriptorIndex := 25, attributes := #[] }, { accessFlags := 25, nameIndex := 277, descriptorIndex := 25, attributes := #[] }, { accessFlags := 25, nameIndex := 280, descriptorIndex := 25, attributes := #[] }, { accessFlags := 25, nameIndex := 282, descriptorIndex := 25, attributes := #[] }, { accessFlags := 25, nameIndex := 284, descriptorIndex := 25, attributes := #[] }, { accessFlags := 25, nameIndex := 286, descriptorIndex := 25, attributes := #[] }, { accessFlags := 25, nameIndex := 288, descriptorIndex := 25, attributes := #[] }, { accessFlags := 25, nameIndex := 290, descriptorIndex := 25, attributes := #[] }, { accessFlags := 25, nameIndex := 292, descriptorIndex := 25, attributes := #[] }, { accessFlags := 26, nameIndex := 108, descriptorIndex := 109, attributes := #[] }, { accessFlags := 25, nameIndex := 294, descriptorIndex := 25, attributes := #[] }])
  fields := #[{ name := "U", type := (.object "jdk/internal/misc/Unsafe"), accessFlags := 24, slot := 0, constantValue := 0 }, { name := "BIG_ENDIAN", type := .boolean, accessFlags := 26, slot := 1, constantValue := 0 }, { name := "LOG2_ARRAY_BOOLEAN_INDEX_SCALE", type := .int, accessFlags := 25, slot := 2, constantValue := 0 }, { name := "LOG2_ARRAY_BYTE_INDEX_SCALE", type := .int, accessFlags := 25, slot := 3, constantValue := 0 }, { name := "LOG2_ARRAY_CHAR_INDEX_SCALE", type := .int, accessFlags := 25, slot := 4, constantValue := 0 }, { name := "LOG2_ARRAY_SHORT_INDEX_SCALE", type := .int, accessFlags := 25, slot := 5, constantValue := 0 }, { name := "LOG2_ARRAY_INT_INDEX_SCALE", type := .int, accessFlags := 25, slot := 6, constantValue := 0 }, { name := "LOG2_ARRAY_LONG_INDEX_SCALE", type := .int, accessFlags := 25, slot := 7, constantValue := 0 }, { name := "LOG2_ARRAY_FLOAT_INDEX_SCALE", type := .int, accessFlags := 25, slot := 8, constantValue := 0 }, { name := "LOG2_ARRAY_DOUBLE_INDEX_SCALE", type := .int, accessFlags := 25, slot := 9, constantValue := 0 }, { name := "LOG2_BYTE_BIT_SIZE", type := .int, accessFlags := 26, slot := 10, constantValue := 0 }, { name := "T_BOOLEAN", type := .int, accessFlags := 25, slot := 11, constantValue := 0 }, { name := "T_CHAR", type := .int, accessFlags := 25, slot := 12, constantValue := 0 }, { name := "T_FLOAT", type := .int, accessFlags := 25, slot := 13, constantValue := 0 }, { name := "T_DOUBLE", type := .int, accessFlags := 25, slot := 14, constantValue := 0 }, { name := "T_BYTE", type := .int, accessFlags := 25, slot := 15, constantValue := 0 }, { name := "T_SHORT", type := .int, accessFlags := 25, slot := 16, constantValue := 0 }, { name := "T_INT", type := .int, accessFlags := 25, slot := 17, constantValue := 0 }, { name := "T_LONG", type := .int, accessFlags := 25, slot := 18, constantValue := 0 }, { name := "JLA", type := (.object "jdk/internal/access/JavaLangAccess"), accessFlags := 26, slot := 19, constantValue := 0 }, { name := "SOFT_MAX_ARRAY_LENGTH", type := .int, accessFlags := 25, slot := 20, constantValue := 0 }]
  methods := #[k12m0]
  instanceTypes := #[]
  staticTypes := #[(.object "jdk/internal/misc/Unsafe"), .boolean, .int, .int, .int, .int, .int, .int, .int, .int, .int, .int, .int, .int, .int, .int, .int, .int, .int, (.object "jdk/internal/access/JavaLangAccess"), .int]
  resolved := Array.replicate 378 none
  statics := none }

def pool13 : Array CpInfo := pool [(1, u "java/lang/Cloneable"), (0, .class_ 1), (0, u "java/lang/Object"), (0, .class_ 3)] 3

/-- java/lang/Cloneable -/
def k13 : Class := { plain "java/lang/Cloneable" (some 0) with
  accessFlags := 1537
  interfaces := #[]
  cf := some (fileOf pool13 2 #[] #[] 1537 4 #[] #[])
  fields := #[]
  methods := #[]
  instanceTypes := #[]
  staticTypes := #[]
  resolved := Array.replicate 8 none
  statics := none }

/-- the primitive byte -/
def k14 : Class := { plain "byte" none with kind := .primitive 'B', accessFlags := 0x411 }
/-- [B -/
def k15 : Class := { plain "[B" (some 0) with kind := .array 14 .byte, interfaces := #[13, 2], accessFlags := 1041 }

/-- the primitive char -/
def k16 : Class := { plain "char" none with kind := .primitive 'C', accessFlags := 0x411 }
/-- [C -/
def k17 : Class := { plain "[C" (some 0) with kind := .array 16 .char, interfaces := #[13, 2], accessFlags := 1041 }

/-- the primitive int -/
def k18 : Class := { plain "int" none with kind := .primitive 'I', accessFlags := 0x411 }
/-- [I -/
def k19 : Class := { plain "[I" (some 0) with kind := .array 18 .int, interfaces := #[13, 2], accessFlags := 1041 }

def heap : Heap := #[{ cls := 7, slots := #[.long 0, .int 1, .null, .int 0, .null, .int 0, .int 0], vm := .statics 7 },
  { cls := 11, slots := #[.null, .null, .null], vm := .statics 11 }]
def classes : Array Class := #[k0, k1, k2, k3, k4, k5, k6, k7, k8, k9, k10, k11, k12, k13, k14, k15, k16, k17, k18, k19]
def interned : List (Array UInt16 × Addr) := []
def slotsUsed : Nat := 10
def theMethod : MethodId := ⟨1, 1⟩
def args0 : Array Value := #[.int 5, .int 7, .int 9]
def aboutOver (below : List Frame) : State where
  vm := { classes := classes, interned := interned.toArray }
  heap := heap
  slotsUsed := slotsUsed
  threads := #[{ frames := .invoking theMethod args0 :: below }]
def below0 : List Frame := [.native { method := ⟨0, 0⟩, args := #[] }]
def about1 : State := aboutOver below0
def p0 : Program := .bare "" "" ""
def e0 : Env := launch0.env 0 0 0
theorem w_frames : about1.frames = Frame.invoking theMethod args0 :: below0 := rfl
set_option maxRecDepth 65536 in
theorem w_args : argsFit about1.vm theMethod args0 = true := by decide +kernel
set_option maxRecDepth 65536 in
theorem w_heap : heapFits about1 = true := by decide +kernel
set_option maxRecDepth 65536 in
theorem w_runnable : about1.curStatus? = some .runnable := by decide +kernel
set_option maxRecDepth 65536 in
theorem w_alone : about1.alone = true := by decide +kernel
set_option maxRecDepth 65536 in
theorem w_named : about1.methodNamed? x = some theMethod := by decide +kernel
set_option maxRecDepth 65536 in
theorem w_hears : about1.hears theMethod below0 = true := by decide +kernel
set_option maxRecDepth 65536 in
theorem w_ripe : about1.ripe theMethod args0 below0 = true := by decide +kernel
theorem w_running : about1.status = .running := rfl
set_option maxRecDepth 65536 in
theorem w_room : about1.hasRoom e0.platform room_1 = true :=
  launch0.hasRoom_least _ room_1 (by decide +kernel) (by decide +kernel) (by decide +kernel) (by decide +kernel) (by decide +kernel) (by decide +kernel)
theorem allAtoms_all (ts : List Jvm.Cond) (a : Array Jvm.Value) (st : Jvm.State) : (allAtoms ts).before a st = ts.all (fun c => c.before a st) := by
  induction ts with
  | nil => rfl
  | cons c t ih =>
    show (Jvm.Cond.and c (allAtoms t)).before a st = _
    rw [Jvm.Cond.before_and, ih, List.all_cons]
def words1 : List Jvm.Cond := Jvm.Cond.code x code maxLocals ret :: tables_1
/-- a 'code' word, met by the world's own term for the bytes: nothing is compared byte by byte -/
theorem code_word {y : MethodName} {bytes : ByteArray} {mx : Nat} {rt : Option FieldType} {a : Array Value} {s : State} {m : MethodId} {meth : Method} {c : Code} (h1 : s.methodNamed? y = some m) (h2 : s.vm.method? m = some meth) (h3 : meth.code = some c) (h4 : c.code = bytes)
    (h5 : (c.maxLocals == mx && c.exceptionTable.isEmpty && decide (c.maxStack ≤ mostOperands) && decide (meth.sig.returnType = rt) && !meth.locks && decide (parseMethodDescriptor y.desc = some meth.sig)) = true) : (Jvm.Cond.code y bytes mx rt).before a s = true := by
  simp only [Bool.and_eq_true, beq_iff_eq, Bool.not_eq_true', decide_eq_true_eq] at h5
  obtain ⟨⟨⟨⟨⟨g1, g2⟩, g3⟩, g4⟩, g5⟩, g6⟩ := h5
  simp [Cond.before, Cond.holds, Cond.value, h1, h2, h3, h4, g1, g2, g3, g4, g5, g6]
def isCode : Jvm.Cond → Bool
  | .code _ _ _ _ => true
  | _ => false
theorem all_split {L : List Jvm.Cond} {P : Jvm.Cond → Bool} (h1 : L.all (fun c => isCode c || P c) = true) (h2 : ∀ c ∈ L.filter isCode, P c = true) : L.all P = true := by
  refine List.all_eq_true.mpr fun c hc => ?_
  have h := List.all_eq_true.mp h1 c hc
  rcases Bool.eq_false_or_eq_true (isCode c) with hi | hi
  · exact h2 c (List.mem_filter.mpr ⟨hc, hi⟩)
  · simpa [hi] using h
set_option maxRecDepth 65536 in
theorem w_c0 : (Jvm.Cond.code x code maxLocals ret).before args0 about1 = true := code_word (m := ⟨1, 1⟩) (meth := k1m1) (c := k1c1) (by decide +kernel) rfl rfl rfl (by decide +kernel)
set_option maxRecDepth 65536 in
theorem w_c1 : (Jvm.Cond.code ({ cls := "java/lang/String", name := "<init>", desc := "([C)V" } : Jvm.MethodName) jdk_42_method_3_code (2 : Nat) (Option.none : Option Jvm.ClassFile.FieldType)).before args0 about1 = true := code_word (m := ⟨7, 1⟩) (meth := k7m1) (c := k7c1) (by decide +kernel) rfl rfl rfl (by decide +kernel)
set_option maxRecDepth 65536 in
theorem w_c2 : (Jvm.Cond.code ({ cls := "java/lang/String", name := "<init>", desc := "([CIILjava/lang/Void;)V" } : Jvm.MethodName) jdk_42_method_149_code (6 : Nat) (Option.none : Option Jvm.ClassFile.FieldType)).before args0 about1 = true := code_word (m := ⟨7, 2⟩) (meth := k7m2) (c := k7c2) (by decide +kernel) rfl rfl rfl (by decide +kernel)
set_option maxRecDepth 65536 in
theorem w_c3 : (Jvm.Cond.code ({ cls := "java/lang/Object", name := "<init>", desc := "()V" } : Jvm.MethodName) object_method_1_code (1 : Nat) (Option.none : Option Jvm.ClassFile.FieldType)).before args0 about1 = true := code_word (m := ⟨0, 0⟩) (meth := k0m0) (c := k0c0) (by decide +kernel) rfl rfl rfl (by decide +kernel)
set_option maxRecDepth 65536 in
theorem w_c4 : (Jvm.Cond.code ({ cls := "java/lang/StringUTF16", name := "compress", desc := "([CII)[B" } : Jvm.MethodName) jdk_52_method_16_code (6 : Nat) (Option.some (Jvm.ClassFile.FieldType.array Jvm.ClassFile.FieldType.byte))).before args0 about1 = true := code_word (m := ⟨8, 2⟩) (meth := k8m2) (c := k8c2) (by decide +kernel) rfl rfl rfl (by decide +kernel)
set_option maxRecDepth 65536 in
theorem w_c5 : (Jvm.Cond.code ({ cls := "java/lang/StringUTF16", name := "compress", desc := "([CI[BII)I" } : Jvm.MethodName) jdk_52_method_21_code (7 : Nat) (Option.some Jvm.ClassFile.FieldType.int)).before args0 about1 = true := code_word (m := ⟨8, 3⟩) (meth := k8m3) (c := k8c3) (by decide +kernel) rfl rfl rfl (by decide +kernel)
set_option maxRecDepth 65536 in
theorem w_c6 : (Jvm.Cond.code ({ cls := "java/lang/StringUTF16", name := "coderFromArrayLen", desc := "([BI)B" } : Jvm.MethodName) jdk_52_method_15_code (2 : Nat) (Option.some Jvm.ClassFile.FieldType.byte)).before args0 about1 = true := code_word (m := ⟨8, 1⟩) (meth := k8m1) (c := k8c1) (by decide +kernel) rfl rfl rfl (by decide +kernel)
set_option maxRecDepth 65536 in
theorem w_c7 : (Jvm.Cond.code ({ cls := "org/benli/core/Limits", name := "checkPeriods", desc := "(Ljava/lang/String;I)V" } : Jvm.MethodName) prog_30_method_5_code (2 : Nat) (Option.none : Option Jvm.ClassFile.FieldType)).before args0 about1 = true := code_word (m := ⟨9, 1⟩) (meth := k9m1) (c := k9c1) (by decide +kernel) rfl rfl rfl (by decide +kernel)
def codes1 : List Jvm.Cond := [Jvm.Cond.code x code maxLocals ret, Jvm.Cond.code ({ cls := "java/lang/String", name := "<init>", desc := "([C)V" } : Jvm.MethodName) jdk_42_method_3_code (2 : Nat) (Option.none : Option Jvm.ClassFile.FieldType), Jvm.Cond.code ({ cls := "java/lang/String", name := "<init>", desc := "([CIILjava/lang/Void;)V" } : Jvm.MethodName) jdk_42_method_149_code (6 : Nat) (Option.none : Option Jvm.ClassFile.FieldType), Jvm.Cond.code ({ cls := "java/lang/Object", name := "<init>", desc := "()V" } : Jvm.MethodName) object_method_1_code (1 : Nat) (Option.none : Option Jvm.ClassFile.FieldType), Jvm.Cond.code ({ cls := "java/lang/StringUTF16", name := "compress", desc := "([CII)[B" } : Jvm.MethodName) jdk_52_method_16_code (6 : Nat) (Option.some (Jvm.ClassFile.FieldType.array Jvm.ClassFile.FieldType.byte)), Jvm.Cond.code ({ cls := "java/lang/StringUTF16", name := "compress", desc := "([CI[BII)I" } : Jvm.MethodName) jdk_52_method_21_code (7 : Nat) (Option.some Jvm.ClassFile.FieldType.int), Jvm.Cond.code ({ cls := "java/lang/StringUTF16", name := "coderFromArrayLen", desc := "([BI)B" } : Jvm.MethodName) jdk_52_method_15_code (2 : Nat) (Option.some Jvm.ClassFile.FieldType.byte), Jvm.Cond.code ({ cls := "org/benli/core/Limits", name := "checkPeriods", desc := "(Ljava/lang/String;I)V" } : Jvm.MethodName) prog_30_method_5_code (2 : Nat) (Option.none : Option Jvm.ClassFile.FieldType)]
set_option maxRecDepth 65536 in
theorem codes_eq : words1.filter isCode = codes1 := rfl
theorem w_codes : ∀ c ∈ words1.filter isCode, c.before args0 about1 = true := by
  rw [codes_eq]
  intro c hc
  simp only [codes1, List.mem_cons, List.not_mem_nil, or_false] at hc
  rcases hc with rfl | rfl | rfl | rfl | rfl | rfl | rfl | rfl
  · exact w_c0
  · exact w_c1
  · exact w_c2
  · exact w_c3
  · exact w_c4
  · exact w_c5
  · exact w_c6
  · exact w_c7
set_option maxRecDepth 65536 in
theorem w_t1 : (words1.take 24).all (fun c => isCode c || c.before args0 about1) = true := by decide +kernel
set_option maxRecDepth 65536 in
theorem w_t2 : (words1.drop 24).all (fun c => isCode c || c.before args0 about1) = true := by decide +kernel
theorem w_tables : (allAtoms (Jvm.Cond.code x code maxLocals ret :: tables_1)).before args0 about1 = true := by
  rw [allAtoms_all]
  show words1.all (fun c => c.before args0 about1) = true
  refine all_split ?_ w_codes
  rw [← List.take_append_drop 24 words1, List.all_append, w_t1, w_t2]
  rfl
set_option maxRecDepth 65536 in
theorem w_rest : rest_1_c.before args0 about1 = true := by decide +kernel
set_option maxRecDepth 65536 in
theorem w_case : (Jvm.Cond.and given_1 narrow_1).before args0 about1 = true := by decide +kernel
theorem w_applies : (headSpec (Jvm.Cond.code x code maxLocals ret :: tables_1) room_1).applies x e0.platform about1 = true :=
  (Spec.applies_iff w_frames).mpr ⟨w_running, w_runnable, w_alone, w_named, w_hears, w_ripe, w_room, w_tables⟩
theorem atStart : AtStart classFile x code maxLocals ret World_1 tables_1 room_1 Calls_1 rest_1 Pre_1 launch0 p0 e0 about1 theMethod args0 below0 :=
  ⟨lists_1, trivial, launch0.admits_env _ _ _, launch0.least_env, fairChoices_fair.cas, fairChoices_fair.clock, w_frames, w_args, w_heap, w_applies, trivial, w_rest, w_case⟩
end start1
theorem witness_1 : WitnessClaimed_1 := ⟨start1.p0, start1.e0, start1.about1, start1.theMethod, start1.args0, start1.below0, start1.atStart⟩
end Jvm.Pilot.@@N@@
