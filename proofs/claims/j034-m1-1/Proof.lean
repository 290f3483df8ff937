import JvmDerived
import JvmDerived.Pilot.@@N@@Statement
import JvmDerived.Pilot.@@N@@Code
set_option linter.unusedVariables false
set_option linter.unusedSimpArgs false

namespace Jvm.Pilot.@@N@@
open Jvm Jvm.ClassFile Sem Op Lib Jvm.Free Jvm.Stand Jvm.LawKit Jvm.RoadKit Bundle Jvm.Pilot.@@N@@.Jvm.D


section OwnKit
variable {p : Program} {l : Launch} {e : Env} {R : Room} {s : State} {m : MethodId} {args : Array Value} {below : List Frame} {meth : Method} {c : Code} {T : State} {locs : List Loc} {cells slots : Nat} {h : Heap} {Q : Option Value → Heap → List Loc → Prop} {C S : Nat}
/-- from the state t the run comes to its end, and what it leaves answers Q -/
def own_Gl (p : Program) (e : Env) (below : List Frame) (s : State) (Q : Option Value → Heap → List Loc → Prop) (C S : Nat) (t : State) : Prop :=
  ∃ s₂ o, Steps p.tables e below t s₂ ∧ s₂.status = .running ∧ Ended s₂ below o ∧ ∃ v L, o = .returned v ∧ Q v s₂.heap L ∧ FrameEnd s o s₂ L C S
theorem own_st {t t' : State} (k : ∀ target, Steps p.tables e below t' target → Steps p.tables e below t target) (d : own_Gl p e below s Q C S t') : own_Gl p e below s Q C S t := by
  obtain ⟨s₂, o, h1, h2⟩ := d
  exact ⟨s₂, o, k _ h1, h2⟩
theorem own_tr {t t' : State} (k : Steps p.tables e below t t') (d : own_Gl p e below s Q C S t') : own_Gl p e below s Q C S t := own_st (fun _ h => k.trans h) d
theorem own_cast {g g' : JFrame} (q : g = g') (d : own_Gl p e below s Q C S (T.setTop g')) : own_Gl p e below s Q C S (T.setTop g) := q ▸ d
theorem own_ret (X : Stand p l e R s m args below meth c T locs cells slots) (hlk : meth.locks = false) {v : Option Value} {t : State} (hv : meth.sig.returnType = none → v = none) (eT : T.heap = h) (hq : Q v h locs) (hc : cells ≤ C) (hs : slots ≤ S)
    (k : ∀ fs, (∀ (f : JFrame) (acts : List Action), f.method = m → f.locked = none → f.entered = [] → (doReturn e (T.setTop f) acts v).1 = T.setFrames fs) → Steps p.tables e below t (T.setFrames fs)) : own_Gl p e below s Q C S t := by
  obtain ⟨fs, hr, hrun, hended, hW, hsame⟩ := X.leave hv hlk
  exact ⟨_, _, k fs hr, hrun, hended, v, locs, rfl, by show Q v T.heap locs; rw [eT]; exact hq, ⟨_, rfl⟩, hW, hsame.mono hc hs⟩
theorem own_retI (X : Stand p l e R s m args below meth c T locs cells slots) (hx : p.tables.exec = Jvm.exec) (hlk : meth.locks = false) {pc : Nat} {Ls : Array Slot} {z : Int32} {rest : List Value} (hret : meth.sig.returnType = some .int) (hd : decode c.code pc = .ok (.ireturn, 1)) (eT : T.heap = h) (hq : Q (some (.int z)) h locs) (hc : cells ≤ C) (hs : slots ≤ S) :
    own_Gl p e below s Q C S (T.setTop (mkF m pc Ls (.int z :: rest))) :=
  own_ret X hlk (fun q => by rw [hret] at q; cases q) eT hq hc hs (fun _ hr => retOut X hx hret rfl (Or.inl ⟨rfl, Or.inl rfl, _, rfl⟩) hd hr)
theorem own_retN (X : Stand p l e R s m args below meth c T locs cells slots) (hx : p.tables.exec = Jvm.exec) (hlk : meth.locks = false) {pc : Nat} {Ls : Array Slot} {z : Int32} {t : FieldType} {rest : List Value} (hret : meth.sig.returnType = some t) (ht : t = .boolean ∨ t = .byte ∨ t = .char ∨ t = .short) (hd : decode c.code pc = .ok (.ireturn, 1)) (eT : T.heap = h) (hq : Q (some (.int (nar t z))) h locs) (hc : cells ≤ C) (hs : slots ≤ S) :
    own_Gl p e below s Q C S (T.setTop (mkF m pc Ls (.int z :: rest))) :=
  own_ret X hlk (fun q => by rw [hret] at q; cases q) eT hq hc hs (fun _ hr => retN X hx hret ht hd hr)
theorem own_retJ (X : Stand p l e R s m args below meth c T locs cells slots) (hx : p.tables.exec = Jvm.exec) (hlk : meth.locks = false) {pc : Nat} {Ls : Array Slot} {z : Int64} {rest : List Value} (hret : meth.sig.returnType = some .long) (hd : decode c.code pc = .ok (.lreturn, 1)) (eT : T.heap = h) (hq : Q (some (.long z)) h locs) (hc : cells ≤ C) (hs : slots ≤ S) :
    own_Gl p e below s Q C S (T.setTop (mkF m pc Ls (.long z :: rest))) :=
  own_ret X hlk (fun q => by rw [hret] at q; cases q) eT hq hc hs (fun _ hr => retOut X hx hret rfl (Or.inr (Or.inl ⟨rfl, rfl, _, rfl⟩)) hd hr)
theorem own_retA (X : Stand p l e R s m args below meth c T locs cells slots) (hx : p.tables.exec = Jvm.exec) (hlk : meth.locks = false) {pc : Nat} {Ls : Array Slot} {w : Value} {t : FieldType} {rest : List Value} (hret : meth.sig.returnType = some t) (ht : t.isReference = true) (hw : w.isRef = true) (hn : narrow t w = w) (hd : decode c.code pc = .ok (.areturn, 1)) (eT : T.heap = h) (hq : Q (some w) h locs) (hc : cells ≤ C) (hs : slots ≤ S) :
    own_Gl p e below s Q C S (T.setTop (mkF m pc Ls (w :: rest))) :=
  own_ret X hlk (fun q => by rw [hret] at q; cases q) eT hq hc hs (fun _ hr => retOut X hx hret hn (Or.inr (Or.inr (Or.inr (Or.inr ⟨rfl, ht, hw⟩)))) hd hr)
theorem own_retV (X : Stand p l e R s m args below meth c T locs cells slots) (hx : p.tables.exec = Jvm.exec) (hlk : meth.locks = false) {pc : Nat} {Ls : Array Slot} (hret : meth.sig.returnType = none) (hd : decode c.code pc = .ok (.return_, 1)) (eT : T.heap = h) (hq : Q none h locs) (hc : cells ≤ C) (hs : slots ≤ S) :
    own_Gl p e below s Q C S (T.setTop (mkF m pc Ls [])) :=
  own_ret X hlk (fun _ => rfl) eT hq hc hs (fun _ hr => X.returnOut hx hret hd hr)
end OwnKit


theorem own_ns_root {Z : State} {a0 : Array Value} {O K : String} {n : Nat} (w : (Jvm.Cond.noSuperclass O).before a0 Z = true) (wk : (Jvm.Cond.instantiable K n).before a0 Z = true) (hn : O ≠ K) : NS Z O K := by
  obtain ⟨c, k, h1, h2, h3, -, -⟩ := Cond.noSuperclass_spec w
  obtain ⟨t, kt, g1, -⟩ := Cond.instantiable_spec wk
  refine ⟨c, t, h1, g1, fun fuel => ?_⟩
  have ne := ids_ne h1 g1 hn
  rcases fuel with _ | f
  · rfl
  · simp [Vm.isSubclassAux, ne, h2, h3]
theorem own_no {Z : State} {a0 : Array Value} {C S K : String} {n : Nat} (w : (Jvm.Cond.superclass C S).before a0 Z = true) (wk : (Jvm.Cond.instantiable K n).before a0 Z = true) (q : NS Z C K) (hn : C ≠ K) : ∃ c t, Z.vm.findClass C = some c ∧ Z.vm.findClass K = some t ∧ Z.vm.assignable c t = false := by
  obtain ⟨c, t, h0, g0, n3⟩ := q
  obtain ⟨p, k, kp, h1, h2, h3, h4, h5, h6, h7⟩ := Cond.superclass_spec h0 w
  obtain ⟨t', kt, q1, q2, q3, q4, -⟩ := Cond.instantiable_spec wk
  cases g0.symm.trans q1
  simp only [Bool.or_eq_false_iff] at q4
  have ne := ids_ne h0 g0 hn
  refine ⟨c, t, h0, g0, ?_⟩
  show Z.vm.assignableAux (255 + 1) c t = false
  simp [Vm.assignableAux, ne, h2, q2, h5, q3, q4.1, Vm.isSubclass, n3]
theorem own_nolog (Z : State) (a0 : Array Value) (hw : ∀ d ∈ tables_1, d.before a0 Z = true) : ∃ c t, Z.vm.findClass "java/lang/Integer" = some c ∧ Z.vm.findClass "com/example/ewig/ewig/LogRotation" = some t ∧ Z.vm.assignable c t = false :=
  own_no (hw _ (List.mem_of_getElem? (i := 27) rfl)) (hw _ (List.mem_of_getElem? (i := 1) rfl)) (NS.step (hw _ (List.mem_of_getElem? (i := 27) rfl)) (NS.step (hw _ (List.mem_of_getElem? (i := 28) rfl)) (own_ns_root (hw _ (List.mem_of_getElem? (i := 29) rfl)) (hw _ (List.mem_of_getElem? (i := 1) rfl)) (by decide)) (by decide)) (by decide)) (by decide)
theorem own_place (w : Int32) (h1 : ¬ w < (-128 : Int32)) (h2 : ¬ (127 : Int32) < w) : ¬ (w + (128 : Int32)) < 0 ∧ (w + (128 : Int32)) < (256 : Int32) := by
  have a := c_iadd w (128 : Int32); have r := rng32 w; have r2 := rng32 (w + (128 : Int32))
  have e0 : (0 : Int32).toInt = 0 := by decide
  have e1 : (128 : Int32).toInt = 128 := by decide
  have e2 : (-128 : Int32).toInt = -128 := by decide
  have e3 : (127 : Int32).toInt = 127 := by decide
  have e4 : (256 : Int32).toInt = 256 := by decide
  simp only [Int32.lt_iff_toInt_lt] at *
  omega
theorem own_m3 (x : Int32) : 0 ≤ (x &&& (3 : Int32)).toInt ∧ (x &&& (3 : Int32)).toInt ≤ 3 := by
  rw [c_mask x (3 : Int32) 2 (by decide) (by decide)]; omega
theorem own_k2 (k : Int32) (h : 0 ≤ k.toInt ∧ k.toInt ≤ 3) (h0 : ¬ k = (0 : Int32)) (h1 : ¬ k = (1 : Int32)) : ¬ k < (2 : Int32) := by
  have e0 : (0 : Int32).toInt = 0 := by decide
  have e1 : (1 : Int32).toInt = 1 := by decide
  have e2 : (2 : Int32).toInt = 2 := by decide
  simp only [Int32.lt_iff_toInt_lt, ← Int32.toInt_inj] at *
  omega
theorem own_sta_int {args : Array Value} {s : State} {t : Term} {v : Int32} (h : (Jvm.Cond.eq t (.int v)).before args s = true) : t.eval args s none [] s = some (.int v) := by
  have h' := Cond.before_iff.mp h
  obtain ⟨x, y, e1, e2, k1, k2⟩ := cmp_v (Or.inl h')
  obtain rfl : y = .int v := Option.some.inj (e2.symm.trans (Term.int_eval v))
  obtain ⟨z, rfl⟩ := k2
  have q := gotT (Cond.eq_ints e1 e2) h'
  subst q
  exact e1
theorem own_256 {n : Nat} (h : n < 2 ^ 31) (e : n.toInt32 = (256 : Int32)) : n = (256 : Int32).toNatClampNeg := by
  have q := len_toInt h
  rw [e] at q
  have e4 : (256 : Int32).toInt = 256 := by decide
  have e5 : (256 : Int32).toNatClampNeg = 256 := by decide
  omega

theorem own_d_prog_4_method_1_code_0 : decode prog_4_method_1_code 0 = .ok (.aload_n 0, 1) := by decide +kernel
theorem own_d_prog_4_method_1_code_1 : decode prog_4_method_1_code 1 = .ok (.invokespecial 1, 3) := by decide +kernel
theorem own_d_prog_4_method_1_code_4 : decode prog_4_method_1_code 4 = .ok (.aload_n 0, 1) := by decide +kernel
theorem own_d_prog_4_method_1_code_5 : decode prog_4_method_1_code 5 = .ok (.iload_n 1, 1) := by decide +kernel
theorem own_d_prog_4_method_1_code_6 : decode prog_4_method_1_code 6 = .ok (.putfield 7, 3) := by decide +kernel
theorem own_d_prog_4_method_1_code_9 : decode prog_4_method_1_code 9 = .ok (.aload_n 0, 1) := by decide +kernel
theorem own_d_prog_4_method_1_code_10 : decode prog_4_method_1_code 10 = .ok (.iload_n 2, 1) := by decide +kernel
theorem own_d_prog_4_method_1_code_11 : decode prog_4_method_1_code 11 = .ok (.putfield 13, 3) := by decide +kernel
theorem own_d_prog_4_method_1_code_14 : decode prog_4_method_1_code 14 = .ok (.return_, 1) := by decide +kernel
theorem own_ef_own_init (m : MethodId) (x0 : Addr) (x1 : Int32) (x2 : Int32) : entryFrame m #[(.ref x0), (.int x1), (.int x2)] 3 = mkF m 0 #[.val (.ref x0), .val (.int x1), .val (.int x2)] [] := by first | (simp [entryFrame, mkF, argsToLocals, Value.category]; done) | rfl
def own_Q_own_init (Z : State) (a : Addr) (p1 : Int32) (p2 : Int32) (h0 : Heap) (n0 : Nat) (v : Option Value) (h : Heap) (L : List Loc) : Prop := (v = none) ∧ (Fr n0 L) ∧ (Keep h0 h [a]) ∧ (Fld Z h a "com/example/ewig/ewig/LogRotation" "size" "I" (.int p1)) ∧ (Fld Z h a "com/example/ewig/ewig/LogRotation" "keep" "I" (.int p2))
theorem own_pn555926024 : plainName "com/example/ewig/ewig/LogRotation" = true := by first | (simp [plainName, overriddenIn]; done) | decide +kernel
set_option maxRecDepth 65536 in
set_option maxHeartbeats 40000000 in
theorem own_init (l : Launch) (Z : State) (a0 : Array Value) (hw : ∀ d ∈ tables_1, d.before a0 Z = true) (ws : List Jvm.Cond) (a : Addr) (p1 : Int32) (p2 : Int32) (h0 : Heap) (n0 : Nat) (Z0 : n0 ≤ h0.size) (E_a : Exa Z h0 a "com/example/ewig/ewig/LogRotation") (F_a_size : Fld Z h0 a "com/example/ewig/ewig/LogRotation" "size" "I" (.int (0 : Int32))) (F_a_keep : Fld Z h0 a "com/example/ewig/ewig/LogRotation" "keep" "I" (.int (0 : Int32))) (g_a : n0 ≤ a) :
    MetFree l (⟨"com/example/ewig/ewig/LogRotation", "<init>", "(II)V"⟩ : MethodName) (head1 (Jvm.Cond.code (⟨"com/example/ewig/ewig/LogRotation", "<init>", "(II)V"⟩ : MethodName) prog_4_method_1_code 3 none :: ws) ({ frames := 1, cells := 0, slots := 0, locals := 12 } : Room)) (fun xa xU => xa = #[(.ref a), (.int p1), (.int p2)] ∧ Z.Warmed39 xU.vm ∧ xU.heap = h0) (fun _ _ _ _ _ => True) (fun _ xU xo xV => ∃ v L, xo = .returned v ∧ own_Q_own_init Z a p1 p2 h0 n0 v xV.heap L ∧ FrameEnd xU xo xV L ({ frames := 1, cells := 0, slots := 0, locals := 12 } : Room).cells ({ frames := 1, cells := 0, slots := 0, locals := 12 } : Room).slots) := by
  refine MetFree.of_bodySF (plainFor_of_name own_pn555926024) hisR ?_
  intro p e s m args below meth c s₁ Bd hml0 hP hK
  obtain ⟨rfl, hZ, hh⟩ := hP
  have hx := Bd.exec
  have hby := Bd.bytes
  have hlk := Bd.notSynchronized
  have hret := Bd.returns
  have hml : c.maxLocals = 3 := hml0
  have hown : s.vm.findClass "com/example/ewig/ewig/LogRotation" = some m.cls := findClass_of_methodNamed Bd.named
  have hnm := (name_of_methodNamed Bd.named Bd.method).1
  have X0 : Stand p l e ({ frames := 1, cells := 0, slots := 0, locals := 12 } : Room) s m #[(.ref a), (.int p1), (.int p2)] below meth c s₁ [] 0 0 := Stand.of_body Bd
  have e0 : s₁.heap = h0 := by rw [← hh, Bd.state]; rfl
  have N0 := Fr.nil n0
  show own_Gl p e below s (own_Q_own_init Z a p1 p2 h0 n0) ({ frames := 1, cells := 0, slots := 0, locals := 12 } : Room).cells ({ frames := 1, cells := 0, slots := 0, locals := 12 } : Room).slots _
  refine own_cast (own_ef_own_init m a p1 p2) ?_
  show own_Gl _ _ _ _ _ _ _ (s₁.setTop (mkF m 0 #[.val (.ref a), .val (.int p1), .val (.int p2)] []))
  refine own_st (fun _ k => XS.aloadN X0.here hx rfl (hb hby own_d_prog_4_method_1_code_0) rfl rfl k) ?_
  show own_Gl _ _ _ _ _ _ _ (s₁.setTop (mkF m 1 #[.val (.ref a), .val (.int p1), .val (.int p2)] [(.ref a)]))
  obtain ⟨T1, X1, e1, st1⟩ := initO X0 hx hZ hown (hw _ (List.mem_of_getElem? (i := 6) rfl)) (hw _ (List.mem_of_getElem? (i := 7) rfl)) (hw _ (List.mem_of_getElem? (i := 8) rfl)) e0 (g := (mkF m 1 #[.val (.ref a), .val (.int p1), .val (.int p2)] [(.ref a)])) rfl (by rw [hml]; rfl) rfl (hb hby own_d_prog_4_method_1_code_1) (by decide) (W := 0) (by show 2 * 0 + _ ≤ _; exact Nat.le_of_eq rfl) (by decide)
  refine own_st st1 ?_
  show own_Gl _ _ _ _ _ _ _ (T1.setTop (mkF m 4 #[.val (.ref a), .val (.int p1), .val (.int p2)] []))
  refine own_st (fun _ k => XS.aloadN X1.here hx rfl (hb hby own_d_prog_4_method_1_code_4) rfl rfl k) ?_
  show own_Gl _ _ _ _ _ _ _ (T1.setTop (mkF m 5 #[.val (.ref a), .val (.int p1), .val (.int p2)] [(.ref a)]))
  refine own_st (fun _ k => XS.iloadN X1.here hx rfl (hb hby own_d_prog_4_method_1_code_5) rfl k) ?_
  show own_Gl _ _ _ _ _ _ _ (T1.setTop (mkF m 6 #[.val (.ref a), .val (.int p1), .val (.int p2)] [(.int p1), (.ref a)]))
  obtain ⟨T2, h2, X2, e2, W2, st2⟩ := putF X1 hx hZ hown (host := "") (Or.inl (hw _ (List.mem_of_getElem? (i := 9) rfl))) Via.refl e1 F_a_size E_a (Or.inr ⟨(hw _ (List.mem_of_getElem? (i := 10) rfl)), rfl, hnm⟩) (hw _ (List.mem_of_getElem? (i := 1) rfl)) (ty := .int) (by decide) rfl rfl (g := (mkF m 6 #[.val (.ref a), .val (.int p1), .val (.int p2)] [(.int p1), (.ref a)])) rfl rfl (hb hby own_d_prog_4_method_1_code_6)
  have N2 := Fr.snoc X2 N0 g_a
  refine own_st st2 ?_
  have Zs3 : n0 ≤ h2.size := Nat.le_trans Z0 (Keep.of_wr W2).1
  have Fw2 := F_a_size.same W2
  show own_Gl _ _ _ _ _ _ _ (T2.setTop (mkF m 9 #[.val (.ref a), .val (.int p1), .val (.int p2)] []))
  refine own_st (fun _ k => XS.aloadN X2.here hx rfl (hb hby own_d_prog_4_method_1_code_9) rfl rfl k) ?_
  show own_Gl _ _ _ _ _ _ _ (T2.setTop (mkF m 10 #[.val (.ref a), .val (.int p1), .val (.int p2)] [(.ref a)]))
  refine own_st (fun _ k => XS.iloadN X2.here hx rfl (hb hby own_d_prog_4_method_1_code_10) rfl k) ?_
  show own_Gl _ _ _ _ _ _ _ (T2.setTop (mkF m 11 #[.val (.ref a), .val (.int p1), .val (.int p2)] [(.int p2), (.ref a)]))
  have f4 := (E_a.wr W2)
  have f5 := (F_a_keep.other W2 (Or.inr (slot_ne (Or.inr (hw _ (List.mem_of_getElem? (i := 12) rfl))) (Or.inr (hw _ (List.mem_of_getElem? (i := 10) rfl))) (by decide) (t := .int) (t' := .int) (by decide) (by decide))))
  obtain ⟨T6, h6, X6, e6, W6, st6⟩ := putF X2 hx hZ hown (host := "") (Or.inl (hw _ (List.mem_of_getElem? (i := 11) rfl))) Via.refl e2 f5 f4 (Or.inr ⟨(hw _ (List.mem_of_getElem? (i := 12) rfl)), rfl, hnm⟩) (hw _ (List.mem_of_getElem? (i := 1) rfl)) (ty := .int) (by decide) rfl rfl (g := (mkF m 11 #[.val (.ref a), .val (.int p1), .val (.int p2)] [(.int p2), (.ref a)])) rfl rfl (hb hby own_d_prog_4_method_1_code_11)
  have N6 := Fr.snoc X6 N2 g_a
  refine own_st st6 ?_
  have Zs7 : n0 ≤ h6.size := Nat.le_trans Zs3 (Keep.of_wr W6).1
  have Fw6 := f5.same W6
  show own_Gl _ _ _ _ _ _ _ (T6.setTop (mkF m 14 #[.val (.ref a), .val (.int p1), .val (.int p2)] []))
  have K8 : Keep h0 h6 [a] := (((Keep.refl h0 [a]).wr W2 (Or.inl (List.mem_of_getElem? (i := 0) rfl))).wr W6 (Or.inl (List.mem_of_getElem? (i := 0) rfl)))
  have f9 := (Fw2.other W6 (Or.inr (slot_ne (Or.inr (hw _ (List.mem_of_getElem? (i := 10) rfl))) (Or.inr (hw _ (List.mem_of_getElem? (i := 12) rfl))) (by decide) (t := .int) (t' := .int) (by decide) (by decide))))
  exact own_retV X6 hx hlk hret (hb hby own_d_prog_4_method_1_code_14) e6 ⟨rfl, N6, K8, f9, Fw6⟩ (by decide) (by decide)
theorem own_d_jdk_18_method_1_code_0 : decode jdk_18_method_1_code 0 = .ok (.aload_n 0, 1) := by decide +kernel
theorem own_d_jdk_18_method_1_code_1 : decode jdk_18_method_1_code 1 = .ok (.invokespecial 1, 3) := by decide +kernel
theorem own_d_jdk_18_method_1_code_4 : decode jdk_18_method_1_code 4 = .ok (.return_, 1) := by decide +kernel
theorem own_ef_own_number (m : MethodId) (x0 : Addr) : entryFrame m #[(.ref x0)] 1 = mkF m 0 #[.val (.ref x0)] [] := by first | (simp [entryFrame, mkF, argsToLocals, Value.category]; done) | rfl
def own_Q_own_number (Z : State) (a : Addr) (h0 : Heap) (n0 : Nat) (v : Option Value) (h : Heap) (L : List Loc) : Prop := (v = none) ∧ (Fr n0 L) ∧ (h = h0)
theorem own_pn239133130 : plainName "java/lang/Number" = true := by first | (simp [plainName, overriddenIn]; done) | decide +kernel
set_option maxRecDepth 65536 in
set_option maxHeartbeats 40000000 in
theorem own_number (l : Launch) (Z : State) (a0 : Array Value) (hw : ∀ d ∈ tables_1, d.before a0 Z = true) (ws : List Jvm.Cond) (a : Addr) (h0 : Heap) (n0 : Nat) (Z0 : n0 ≤ h0.size) :
    MetFree l (⟨"java/lang/Number", "<init>", "()V"⟩ : MethodName) (head1 (Jvm.Cond.code (⟨"java/lang/Number", "<init>", "()V"⟩ : MethodName) jdk_18_method_1_code 1 none :: ws) ({ frames := 1, cells := 0, slots := 0, locals := 12 } : Room)) (fun xa xU => xa = #[(.ref a)] ∧ Z.Warmed39 xU.vm ∧ xU.heap = h0) (fun _ _ _ _ _ => True) (fun _ xU xo xV => ∃ v L, xo = .returned v ∧ own_Q_own_number Z a h0 n0 v xV.heap L ∧ FrameEnd xU xo xV L ({ frames := 1, cells := 0, slots := 0, locals := 12 } : Room).cells ({ frames := 1, cells := 0, slots := 0, locals := 12 } : Room).slots) := by
  refine MetFree.of_bodySF (plainFor_of_name own_pn239133130) hisR ?_
  intro p e s m args below meth c s₁ Bd hml0 hP hK
  obtain ⟨rfl, hZ, hh⟩ := hP
  have hx := Bd.exec
  have hby := Bd.bytes
  have hlk := Bd.notSynchronized
  have hret := Bd.returns
  have hml : c.maxLocals = 1 := hml0
  have hown : s.vm.findClass "java/lang/Number" = some m.cls := findClass_of_methodNamed Bd.named
  have hnm := (name_of_methodNamed Bd.named Bd.method).1
  have X0 : Stand p l e ({ frames := 1, cells := 0, slots := 0, locals := 12 } : Room) s m #[(.ref a)] below meth c s₁ [] 0 0 := Stand.of_body Bd
  have e0 : s₁.heap = h0 := by rw [← hh, Bd.state]; rfl
  have N0 := Fr.nil n0
  show own_Gl p e below s (own_Q_own_number Z a h0 n0) ({ frames := 1, cells := 0, slots := 0, locals := 12 } : Room).cells ({ frames := 1, cells := 0, slots := 0, locals := 12 } : Room).slots _
  refine own_cast (own_ef_own_number m a) ?_
  show own_Gl _ _ _ _ _ _ _ (s₁.setTop (mkF m 0 #[.val (.ref a)] []))
  refine own_st (fun _ k => XS.aloadN X0.here hx rfl (hb hby own_d_jdk_18_method_1_code_0) rfl rfl k) ?_
  show own_Gl _ _ _ _ _ _ _ (s₁.setTop (mkF m 1 #[.val (.ref a)] [(.ref a)]))
  obtain ⟨T1, X1, e1, st1⟩ := initO X0 hx hZ hown (hw _ (List.mem_of_getElem? (i := 42) rfl)) (hw _ (List.mem_of_getElem? (i := 7) rfl)) (hw _ (List.mem_of_getElem? (i := 8) rfl)) e0 (g := (mkF m 1 #[.val (.ref a)] [(.ref a)])) rfl (by rw [hml]; rfl) rfl (hb hby own_d_jdk_18_method_1_code_1) (by decide) (W := 0) (by show 2 * 0 + _ ≤ _; exact Nat.le_of_eq rfl) (by decide)
  refine own_st st1 ?_
  show own_Gl _ _ _ _ _ _ _ (T1.setTop (mkF m 4 #[.val (.ref a)] []))
  exact own_retV X1 hx hlk hret (hb hby own_d_jdk_18_method_1_code_4) e1 ⟨rfl, N0, rfl⟩ (by decide) (by decide)
theorem own_d_jdk_33_method_23_code_0 : decode jdk_33_method_23_code 0 = .ok (.aload_n 0, 1) := by decide +kernel
theorem own_d_jdk_33_method_23_code_1 : decode jdk_33_method_23_code 1 = .ok (.invokespecial 202, 3) := by decide +kernel
theorem own_pd691897 : parseMethodDescriptor "()V" = some ⟨[], none⟩ := by decide +kernel
theorem own_d_jdk_33_method_23_code_4 : decode jdk_33_method_23_code 4 = .ok (.aload_n 0, 1) := by decide +kernel
theorem own_d_jdk_33_method_23_code_5 : decode jdk_33_method_23_code 5 = .ok (.iload_n 1, 1) := by decide +kernel
theorem own_d_jdk_33_method_23_code_6 : decode jdk_33_method_23_code 6 = .ok (.putfield 205, 3) := by decide +kernel
theorem own_d_jdk_33_method_23_code_9 : decode jdk_33_method_23_code 9 = .ok (.return_, 1) := by decide +kernel
theorem own_ef_own_iinit (m : MethodId) (x0 : Addr) (x1 : Int32) : entryFrame m #[(.ref x0), (.int x1)] 2 = mkF m 0 #[.val (.ref x0), .val (.int x1)] [] := by first | (simp [entryFrame, mkF, argsToLocals, Value.category]; done) | rfl
def own_Q_own_iinit (Z : State) (a : Addr) (p1 : Int32) (h0 : Heap) (n0 : Nat) (v : Option Value) (h : Heap) (L : List Loc) : Prop := (v = none) ∧ (Fr n0 L) ∧ (Keep h0 h [a]) ∧ (Fld Z h a "java/lang/Integer" "value" "I" (.int p1))
theorem own_pn780852207 : plainName "java/lang/Integer" = true := by first | (simp [plainName, overriddenIn]; done) | decide +kernel
set_option maxRecDepth 65536 in
set_option maxHeartbeats 40000000 in
theorem own_iinit (l : Launch) (Z : State) (a0 : Array Value) (hw : ∀ d ∈ tables_1, d.before a0 Z = true) (ws : List Jvm.Cond) (a : Addr) (p1 : Int32) (h0 : Heap) (n0 : Nat) (Z0 : n0 ≤ h0.size) (E_a : Exa Z h0 a "java/lang/Integer") (F_a_value : Fld Z h0 a "java/lang/Integer" "value" "I" (.int (0 : Int32))) (g_a : n0 ≤ a) :
    MetFree l (⟨"java/lang/Integer", "<init>", "(I)V"⟩ : MethodName) (head1 (Jvm.Cond.code (⟨"java/lang/Integer", "<init>", "(I)V"⟩ : MethodName) jdk_33_method_23_code 2 none :: ws) ({ frames := 2, cells := 0, slots := 0, locals := 24 } : Room)) (fun xa xU => xa = #[(.ref a), (.int p1)] ∧ Z.Warmed39 xU.vm ∧ xU.heap = h0) (fun _ _ _ _ _ => True) (fun _ xU xo xV => ∃ v L, xo = .returned v ∧ own_Q_own_iinit Z a p1 h0 n0 v xV.heap L ∧ FrameEnd xU xo xV L ({ frames := 2, cells := 0, slots := 0, locals := 24 } : Room).cells ({ frames := 2, cells := 0, slots := 0, locals := 24 } : Room).slots) := by
  refine MetFree.of_bodySF (plainFor_of_name own_pn780852207) hisR ?_
  intro p e s m args below meth c s₁ Bd hml0 hP hK
  obtain ⟨rfl, hZ, hh⟩ := hP
  have hx := Bd.exec
  have hby := Bd.bytes
  have hlk := Bd.notSynchronized
  have hret := Bd.returns
  have hml : c.maxLocals = 2 := hml0
  have hown : s.vm.findClass "java/lang/Integer" = some m.cls := findClass_of_methodNamed Bd.named
  have hnm := (name_of_methodNamed Bd.named Bd.method).1
  have X0 : Stand p l e ({ frames := 2, cells := 0, slots := 0, locals := 24 } : Room) s m #[(.ref a), (.int p1)] below meth c s₁ [] 0 0 := Stand.of_body Bd
  have e0 : s₁.heap = h0 := by rw [← hh, Bd.state]; rfl
  have N0 := Fr.nil n0
  show own_Gl p e below s (own_Q_own_iinit Z a p1 h0 n0) ({ frames := 2, cells := 0, slots := 0, locals := 24 } : Room).cells ({ frames := 2, cells := 0, slots := 0, locals := 24 } : Room).slots _
  refine own_cast (own_ef_own_iinit m a p1) ?_
  show own_Gl _ _ _ _ _ _ _ (s₁.setTop (mkF m 0 #[.val (.ref a), .val (.int p1)] []))
  refine own_st (fun _ k => XS.aloadN X0.here hx rfl (hb hby own_d_jdk_33_method_23_code_0) rfl rfl k) ?_
  show own_Gl _ _ _ _ _ _ _ (s₁.setTop (mkF m 1 #[.val (.ref a), .val (.int p1)] [(.ref a)]))
  obtain ⟨_, _, ⟨T1, L1, k1, n1⟩, -, X1, ⟨Lc1, hQ1, l1, y1, z1⟩, st1⟩ := X0.specialBack hx (y := (⟨"java/lang/Number", "<init>", "()V"⟩ : MethodName)) rfl hown (mvT hZ (hw _ (List.mem_of_getElem? (i := 36) rfl))) (mvT hZ (hw _ (List.mem_of_getElem? (i := 37) rfl))) (mvT hZ (hw _ (List.mem_of_getElem? (i := 41) rfl))) (by decide) (backOf (W := 0) (own_number l Z a0 hw [] a h0 n0 Z0 ) hZ (hw _ (List.mem_of_getElem? (i := 41) rfl)) (hw _ (List.mem_of_getElem? (i := 40) rfl)) (by decide) (by decide)) (g := (mkF m 1 #[.val (.ref a), .val (.int p1)] [(.ref a)])) rfl (by rw [hml]; rfl) (Steps.refl _) (a := a) (argsL := []) (rest := []) (lenOf own_pd691897 rfl) rfl (by show 2 * 0 + _ ≤ _; exact Nat.le_of_eq rfl) (hb hby own_d_jdk_33_method_23_code_1) (fun _ _ => ⟨rfl, e0, (by decide : 0 + 0 ≤ ({ frames := 2, cells := 0, slots := 0, locals := 24 } : Room).cells), (by decide : 0 + 0 ≤ ({ frames := 2, cells := 0, slots := 0, locals := 24 } : Room).slots)⟩)
  dsimp only [Pt.U, Pt.locs, Pt.cells, Pt.slots] at X1 l1 y1 z1 st1 hQ1
  subst l1 y1 z1
  obtain ⟨hh1, eh01⟩ : ∃ z, T1.heap = z := ⟨_, rfl⟩
  rw [eh01] at hQ1
  obtain ⟨rfl, Nq1, eh1⟩ := hQ1
  have N1 := Fr.app N0 Nq1
  refine own_tr st1 ?_
  have e1 : T1.heap = h0 := eh01.trans eh1
  show own_Gl _ _ _ _ _ _ _ (T1.setTop (mkF m 4 #[.val (.ref a), .val (.int p1)] []))
  refine own_st (fun _ k => XS.aloadN X1.here hx rfl (hb hby own_d_jdk_33_method_23_code_4) rfl rfl k) ?_
  show own_Gl _ _ _ _ _ _ _ (T1.setTop (mkF m 5 #[.val (.ref a), .val (.int p1)] [(.ref a)]))
  refine own_st (fun _ k => XS.iloadN X1.here hx rfl (hb hby own_d_jdk_33_method_23_code_5) rfl k) ?_
  show own_Gl _ _ _ _ _ _ _ (T1.setTop (mkF m 6 #[.val (.ref a), .val (.int p1)] [(.int p1), (.ref a)]))
  obtain ⟨T2, h2, X2, e2, W2, st2⟩ := putF X1 hx hZ hown (host := "") (Or.inl (hw _ (List.mem_of_getElem? (i := 43) rfl))) Via.refl e1 F_a_value E_a (Or.inr ⟨(hw _ (List.mem_of_getElem? (i := 44) rfl)), rfl, hnm⟩) (hw _ (List.mem_of_getElem? (i := 31) rfl)) (ty := .int) (by decide) rfl rfl (g := (mkF m 6 #[.val (.ref a), .val (.int p1)] [(.int p1), (.ref a)])) rfl rfl (hb hby own_d_jdk_33_method_23_code_6)
  have N2 := Fr.snoc X2 N1 g_a
  refine own_st st2 ?_
  have Zs3 : n0 ≤ h2.size := Nat.le_trans Z0 (Keep.of_wr W2).1
  have Fw2 := F_a_value.same W2
  show own_Gl _ _ _ _ _ _ _ (T2.setTop (mkF m 9 #[.val (.ref a), .val (.int p1)] []))
  have K4 : Keep h0 h2 [a] := ((Keep.refl h0 [a]).wr W2 (Or.inl (List.mem_of_getElem? (i := 0) rfl)))
  exact own_retV X2 hx hlk hret (hb hby own_d_jdk_33_method_23_code_9) e2 ⟨rfl, N2, K4, Fw2⟩ (by decide) (by decide)
theorem own_d_jdk_33_method_22_code_0 : decode jdk_33_method_22_code 0 = .ok (.iload_n 0, 1) := by decide +kernel
theorem own_d_jdk_33_method_22_code_1 : decode jdk_33_method_22_code 1 = .ok (.bipush (-128), 2) := by decide +kernel
theorem own_d_jdk_33_method_22_code_3 : decode jdk_33_method_22_code 3 = .ok (.if_icmp .lt 20, 3) := by decide +kernel
theorem own_d_jdk_33_method_22_code_23 : decode jdk_33_method_22_code 23 = .ok (.new 1, 3) := by decide +kernel
theorem own_d_jdk_33_method_22_code_26 : decode jdk_33_method_22_code 26 = .ok (.dup, 1) := by decide +kernel
theorem own_d_jdk_33_method_22_code_27 : decode jdk_33_method_22_code 27 = .ok (.iload_n 0, 1) := by decide +kernel
theorem own_d_jdk_33_method_22_code_28 : decode jdk_33_method_22_code 28 = .ok (.invokespecial 199, 3) := by decide +kernel
theorem own_pd91181850 : parseMethodDescriptor "(I)V" = some ⟨[.int], none⟩ := by decide +kernel
theorem own_d_jdk_33_method_22_code_31 : decode jdk_33_method_22_code 31 = .ok (.areturn, 1) := by decide +kernel
theorem own_d_jdk_33_method_22_code_6 : decode jdk_33_method_22_code 6 = .ok (.iload_n 0, 1) := by decide +kernel
theorem own_d_jdk_33_method_22_code_7 : decode jdk_33_method_22_code 7 = .ok (.getstatic 191, 3) := by decide +kernel
theorem own_d_jdk_33_method_22_code_10 : decode jdk_33_method_22_code 10 = .ok (.if_icmp .gt 13, 3) := by decide +kernel
theorem own_d_jdk_33_method_22_code_13 : decode jdk_33_method_22_code 13 = .ok (.getstatic 195, 3) := by decide +kernel
theorem own_d_jdk_33_method_22_code_16 : decode jdk_33_method_22_code 16 = .ok (.iload_n 0, 1) := by decide +kernel
theorem own_d_jdk_33_method_22_code_17 : decode jdk_33_method_22_code 17 = .ok (.sipush 128, 3) := by decide +kernel
theorem own_d_jdk_33_method_22_code_20 : decode jdk_33_method_22_code 20 = .ok (.iadd, 1) := by decide +kernel
theorem own_d_jdk_33_method_22_code_21 : decode jdk_33_method_22_code 21 = .ok (.aaload, 1) := by decide +kernel
theorem own_d_jdk_33_method_22_code_22 : decode jdk_33_method_22_code 22 = .ok (.areturn, 1) := by decide +kernel
theorem own_ef_own_valueOf (m : MethodId) (x0 : Int32) : entryFrame m #[(.int x0)] 1 = mkF m 0 #[.val (.int x0)] [] := by first | (simp [entryFrame, mkF, argsToLocals, Value.category]; done) | rfl
def own_Q_own_valueOf (Z : State) (p1 : Int32) (ca : Addr) (ccl : Cell) (h0 : Heap) (n0 : Nat) (v : Option Value) (h : Heap) (L : List Loc) : Prop := ∃ (r : Addr), (v = some (.ref r)) ∧ (Fr n0 L) ∧ (Keep h0 h []) ∧ (Exa Z h r "java/lang/Integer")
set_option maxRecDepth 65536 in
set_option maxHeartbeats 40000000 in
theorem own_valueOf (l : Launch) (Z : State) (a0 : Array Value) (hw : ∀ d ∈ tables_1, d.before a0 Z = true) (ws : List Jvm.Cond) (p1 : Int32) (ca : Addr) (ccl : Cell) (h0 : Heap) (n0 : Nat) (Z0 : n0 ≤ h0.size) (S_high : Sta Z h0 "java/lang/Integer$IntegerCache" "high" "I" (.int (127 : Int32))) (S_cache : Sta Z h0 "java/lang/Integer$IntegerCache" "cache" "[Ljava/lang/Integer;" (.ref ca)) (hca : Arr Z h0 ca ccl (.object "java/lang/Integer")) (hcs : ccl.slots.size = (256 : Int32).toNatClampNeg) (hcache : ∀ j : Int32, ¬ j < 0 → j < (256 : Int32) → ∃ r : Addr, ccl.slots[j.toNatClampNeg]? = some (.ref r) ∧ Exa Z h0 r "java/lang/Integer") :
    MetFree l (⟨"java/lang/Integer", "valueOf", "(I)Ljava/lang/Integer;"⟩ : MethodName) (head1 (Jvm.Cond.code (⟨"java/lang/Integer", "valueOf", "(I)Ljava/lang/Integer;"⟩ : MethodName) jdk_33_method_22_code 1 (some (.object "java/lang/Integer")) :: ws) ({ frames := 3, cells := 1, slots := 1, locals := 38 } : Room)) (fun xa xU => xa = #[(.int p1)] ∧ Z.Warmed39 xU.vm ∧ xU.heap = h0) (fun _ _ _ _ _ => True) (fun _ xU xo xV => ∃ v L, xo = .returned v ∧ own_Q_own_valueOf Z p1 ca ccl h0 n0 v xV.heap L ∧ FrameEnd xU xo xV L ({ frames := 3, cells := 1, slots := 1, locals := 38 } : Room).cells ({ frames := 3, cells := 1, slots := 1, locals := 38 } : Room).slots) := by
  refine MetFree.of_bodySF (plainFor_of_name own_pn780852207) hisR ?_
  intro p e s m args below meth c s₁ Bd hml0 hP hK
  obtain ⟨rfl, hZ, hh⟩ := hP
  have hx := Bd.exec
  have hby := Bd.bytes
  have hlk := Bd.notSynchronized
  have hret := Bd.returns
  have hml : c.maxLocals = 1 := hml0
  have hown : s.vm.findClass "java/lang/Integer" = some m.cls := findClass_of_methodNamed Bd.named
  have hnm := (name_of_methodNamed Bd.named Bd.method).1
  have X0 : Stand p l e ({ frames := 3, cells := 1, slots := 1, locals := 38 } : Room) s m #[(.int p1)] below meth c s₁ [] 0 0 := Stand.of_body Bd
  have e0 : s₁.heap = h0 := by rw [← hh, Bd.state]; rfl
  have N0 := Fr.nil n0
  show own_Gl p e below s (own_Q_own_valueOf Z p1 ca ccl h0 n0) ({ frames := 3, cells := 1, slots := 1, locals := 38 } : Room).cells ({ frames := 3, cells := 1, slots := 1, locals := 38 } : Room).slots _
  refine own_cast (own_ef_own_valueOf m p1) ?_
  show own_Gl _ _ _ _ _ _ _ (s₁.setTop (mkF m 0 #[.val (.int p1)] []))
  refine own_st (fun _ k => XS.iloadN X0.here hx rfl (hb hby own_d_jdk_33_method_22_code_0) rfl k) ?_
  show own_Gl _ _ _ _ _ _ _ (s₁.setTop (mkF m 1 #[.val (.int p1)] [(.int p1)]))
  refine own_st (fun _ k => XS.bipush X0.here hx rfl (hb hby own_d_jdk_33_method_22_code_1) k) ?_
  show own_Gl _ _ _ _ _ _ _ (s₁.setTop (mkF m 3 #[.val (.int p1)] [(.int (-128 : Int32)), (.int p1)]))
  by_cases hc3 : p1 < (-128 : Int32)
  · refine own_st (fun _ k => XS.icmpYes X0.here hx rfl (pc0 := 3) (pc' := 23) rfl (hb hby own_d_jdk_33_method_22_code_3) rfl (tlt hc3).1 (by decide) (by decide) k) ?_
    show own_Gl _ _ _ _ _ _ _ (s₁.setTop (mkF m 23 #[.val (.int p1)] []))
    obtain ⟨T1, h1, X1, e1, E1, A1, D1, -, st1⟩ := newO X0 hx hZ hown (hw _ (List.mem_of_getElem? (i := 30) rfl)) (hw _ (List.mem_of_getElem? (i := 31) rfl)) (hw _ (List.mem_of_getElem? (i := 22) rfl)) e0 (g := (mkF m 23 #[.val (.int p1)] [])) rfl (hb hby own_d_jdk_33_method_22_code_23) (by decide) (by decide)
    obtain ⟨b1, gb1⟩ : ∃ z, z = h0.size := ⟨_, rfl⟩
    rw [← gb1] at A1 D1 st1
    refine own_st st1 ?_
    have Zs2 : n0 ≤ h1.size := Nat.le_trans Z0 E1.1
    have g_b1 : n0 ≤ b1 := Nat.le_trans Z0 (Nat.le_of_eq gb1.symm)
    have gh_b1 : h0.size ≤ b1 := Nat.le_trans (Keep.refl h0 []).1 (Nat.le_of_eq gb1.symm)
    have F_value_b1 : Fld Z h1 b1 "java/lang/Integer" "value" "I" (.int (0 : Int32)) := D1 (Or.inr (hw _ (List.mem_of_getElem? (i := 44) rfl))) (ty := .int) (by decide)
    show own_Gl _ _ _ _ _ _ _ (T1.setTop (mkF m 26 #[.val (.int p1)] [(.ref b1)]))
    refine own_st (fun _ k => XS.dup X1.here hx rfl (hb hby own_d_jdk_33_method_22_code_26) rfl rfl k) ?_
    show own_Gl _ _ _ _ _ _ _ (T1.setTop (mkF m 27 #[.val (.int p1)] [(.ref b1), (.ref b1)]))
    refine own_st (fun _ k => XS.iloadN X1.here hx rfl (hb hby own_d_jdk_33_method_22_code_27) rfl k) ?_
    show own_Gl _ _ _ _ _ _ _ (T1.setTop (mkF m 28 #[.val (.int p1)] [(.int p1), (.ref b1), (.ref b1)]))
    obtain ⟨_, _, ⟨T4, L4, k4, n4⟩, -, X4, ⟨Lc4, hQ4, l4, y4, z4⟩, st4⟩ := X1.specialBack hx (y := (⟨"java/lang/Integer", "<init>", "(I)V"⟩ : MethodName)) rfl hown (mvT hZ (hw _ (List.mem_of_getElem? (i := 32) rfl))) (mvT hZ (hw _ (List.mem_of_getElem? (i := 33) rfl))) (mvT hZ (hw _ (List.mem_of_getElem? (i := 35) rfl))) (by decide) (backOf (W := 1) (own_iinit l Z a0 hw [] b1 p1 h1 n0 Zs2 A1 F_value_b1 g_b1) hZ (hw _ (List.mem_of_getElem? (i := 35) rfl)) (hw _ (List.mem_of_getElem? (i := 22) rfl)) (by decide) (by decide)) (g := (mkF m 28 #[.val (.int p1)] [(.int p1), (.ref b1), (.ref b1)])) rfl (by rw [hml]; rfl) (Steps.refl _) (a := b1) (argsL := [(.int p1)]) (rest := [(.ref b1)]) (lenOf own_pd91181850 rfl) rfl (by show 2 * 0 + _ ≤ _; exact Nat.le_of_eq rfl) (hb hby own_d_jdk_33_method_22_code_28) (fun _ _ => ⟨rfl, e1, (by decide : 1 + 0 ≤ ({ frames := 3, cells := 1, slots := 1, locals := 38 } : Room).cells), (by decide : 1 + 0 ≤ ({ frames := 3, cells := 1, slots := 1, locals := 38 } : Room).slots)⟩)
    dsimp only [Pt.U, Pt.locs, Pt.cells, Pt.slots] at X4 l4 y4 z4 st4 hQ4
    subst l4 y4 z4
    obtain ⟨hh4, eh04⟩ : ∃ z, T4.heap = z := ⟨_, rfl⟩
    rw [eh04] at hQ4
    obtain ⟨rfl, Nq4, Kq4, P4_0⟩ := hQ4
    have N4 := Fr.app N0 Nq4
    refine own_tr st4 ?_
    have Zs5 : n0 ≤ hh4.size := Nat.le_trans Zs2 Kq4.1
    show own_Gl _ _ _ _ _ _ _ (T4.setTop (mkF m 31 #[.val (.int p1)] [(.ref b1)]))
    have K6 : Keep h0 hh4 [] := (((Keep.refl h0 []).ext E1).trans Kq4 (allS (Or.inr gh_b1) all0))
    have f7 := (A1.keep Kq4)
    exact own_retA X4 hx hlk hret rfl rfl rfl (hb hby own_d_jdk_33_method_22_code_31) eh04 ⟨b1, rfl, N4, K6, f7⟩ (by decide) (by decide)
  · refine own_st (fun _ k => XS.icmpNo X0.here hx rfl (hb hby own_d_jdk_33_method_22_code_3) rfl (flt hc3).1 k) ?_
    show own_Gl _ _ _ _ _ _ _ (s₁.setTop (mkF m 6 #[.val (.int p1)] []))
    refine own_st (fun _ k => XS.iloadN X0.here hx rfl (hb hby own_d_jdk_33_method_22_code_6) rfl k) ?_
    show own_Gl _ _ _ _ _ _ _ (s₁.setTop (mkF m 7 #[.val (.int p1)] [(.int p1)]))
    obtain ⟨T8, X8, e8, st8⟩ := getS2 X0 hx hZ hown (host := "") (Or.inl (hw _ (List.mem_of_getElem? (i := 24) rfl))) Via.refl e0 S_high (g := (mkF m 7 #[.val (.int p1)] [(.int p1)])) rfl (hb hby own_d_jdk_33_method_22_code_7)
    refine own_st st8 ?_
    show own_Gl _ _ _ _ _ _ _ (T8.setTop (mkF m 10 #[.val (.int p1)] [(.int (127 : Int32)), (.int p1)]))
    by_cases hc10 : (127 : Int32) < p1
    · refine own_st (fun _ k => XS.icmpYes X8.here hx rfl (pc0 := 10) (pc' := 23) rfl (hb hby own_d_jdk_33_method_22_code_10) rfl (tlt hc10).2.2.1 (by decide) (by decide) k) ?_
      show own_Gl _ _ _ _ _ _ _ (T8.setTop (mkF m 23 #[.val (.int p1)] []))
      obtain ⟨T9, h9, X9, e9, E9, A9, D9, -, st9⟩ := newO X8 hx hZ hown (hw _ (List.mem_of_getElem? (i := 30) rfl)) (hw _ (List.mem_of_getElem? (i := 31) rfl)) (hw _ (List.mem_of_getElem? (i := 22) rfl)) e8 (g := (mkF m 23 #[.val (.int p1)] [])) rfl (hb hby own_d_jdk_33_method_22_code_23) (by decide) (by decide)
      obtain ⟨b9, gb9⟩ : ∃ z, z = h0.size := ⟨_, rfl⟩
      rw [← gb9] at A9 D9 st9
      refine own_st st9 ?_
      have Zs10 : n0 ≤ h9.size := Nat.le_trans Z0 E9.1
      have g_b9 : n0 ≤ b9 := Nat.le_trans Z0 (Nat.le_of_eq gb9.symm)
      have gh_b9 : h0.size ≤ b9 := Nat.le_trans (Keep.refl h0 []).1 (Nat.le_of_eq gb9.symm)
      have F_value_b9 : Fld Z h9 b9 "java/lang/Integer" "value" "I" (.int (0 : Int32)) := D9 (Or.inr (hw _ (List.mem_of_getElem? (i := 44) rfl))) (ty := .int) (by decide)
      show own_Gl _ _ _ _ _ _ _ (T9.setTop (mkF m 26 #[.val (.int p1)] [(.ref b9)]))
      refine own_st (fun _ k => XS.dup X9.here hx rfl (hb hby own_d_jdk_33_method_22_code_26) rfl rfl k) ?_
      show own_Gl _ _ _ _ _ _ _ (T9.setTop (mkF m 27 #[.val (.int p1)] [(.ref b9), (.ref b9)]))
      refine own_st (fun _ k => XS.iloadN X9.here hx rfl (hb hby own_d_jdk_33_method_22_code_27) rfl k) ?_
      show own_Gl _ _ _ _ _ _ _ (T9.setTop (mkF m 28 #[.val (.int p1)] [(.int p1), (.ref b9), (.ref b9)]))
      obtain ⟨_, _, ⟨T12, L12, k12, n12⟩, -, X12, ⟨Lc12, hQ12, l12, y12, z12⟩, st12⟩ := X9.specialBack hx (y := (⟨"java/lang/Integer", "<init>", "(I)V"⟩ : MethodName)) rfl hown (mvT hZ (hw _ (List.mem_of_getElem? (i := 32) rfl))) (mvT hZ (hw _ (List.mem_of_getElem? (i := 33) rfl))) (mvT hZ (hw _ (List.mem_of_getElem? (i := 35) rfl))) (by decide) (backOf (W := 1) (own_iinit l Z a0 hw [] b9 p1 h9 n0 Zs10 A9 F_value_b9 g_b9) hZ (hw _ (List.mem_of_getElem? (i := 35) rfl)) (hw _ (List.mem_of_getElem? (i := 22) rfl)) (by decide) (by decide)) (g := (mkF m 28 #[.val (.int p1)] [(.int p1), (.ref b9), (.ref b9)])) rfl (by rw [hml]; rfl) (Steps.refl _) (a := b9) (argsL := [(.int p1)]) (rest := [(.ref b9)]) (lenOf own_pd91181850 rfl) rfl (by show 2 * 0 + _ ≤ _; exact Nat.le_of_eq rfl) (hb hby own_d_jdk_33_method_22_code_28) (fun _ _ => ⟨rfl, e9, (by decide : 1 + 0 ≤ ({ frames := 3, cells := 1, slots := 1, locals := 38 } : Room).cells), (by decide : 1 + 0 ≤ ({ frames := 3, cells := 1, slots := 1, locals := 38 } : Room).slots)⟩)
      dsimp only [Pt.U, Pt.locs, Pt.cells, Pt.slots] at X12 l12 y12 z12 st12 hQ12
      subst l12 y12 z12
      obtain ⟨hh12, eh012⟩ : ∃ z, T12.heap = z := ⟨_, rfl⟩
      rw [eh012] at hQ12
      obtain ⟨rfl, Nq12, Kq12, P12_0⟩ := hQ12
      have N12 := Fr.app N0 Nq12
      refine own_tr st12 ?_
      have Zs13 : n0 ≤ hh12.size := Nat.le_trans Zs10 Kq12.1
      show own_Gl _ _ _ _ _ _ _ (T12.setTop (mkF m 31 #[.val (.int p1)] [(.ref b9)]))
      have K14 : Keep h0 hh12 [] := (((Keep.refl h0 []).ext E9).trans Kq12 (allS (Or.inr gh_b9) all0))
      have f15 := (A9.keep Kq12)
      exact own_retA X12 hx hlk hret rfl rfl rfl (hb hby own_d_jdk_33_method_22_code_31) eh012 ⟨b9, rfl, N12, K14, f15⟩ (by decide) (by decide)
    · refine own_st (fun _ k => XS.icmpNo X8.here hx rfl (hb hby own_d_jdk_33_method_22_code_10) rfl (flt hc10).2.2.1 k) ?_
      show own_Gl _ _ _ _ _ _ _ (T8.setTop (mkF m 13 #[.val (.int p1)] []))
      obtain ⟨T16, X16, e16, st16⟩ := getS2 X8 hx hZ hown (host := "") (Or.inl (hw _ (List.mem_of_getElem? (i := 26) rfl))) Via.refl e8 S_cache (g := (mkF m 13 #[.val (.int p1)] [])) rfl (hb hby own_d_jdk_33_method_22_code_13)
      refine own_st st16 ?_
      show own_Gl _ _ _ _ _ _ _ (T16.setTop (mkF m 16 #[.val (.int p1)] [(.ref ca)]))
      refine own_st (fun _ k => XS.iloadN X16.here hx rfl (hb hby own_d_jdk_33_method_22_code_16) rfl k) ?_
      show own_Gl _ _ _ _ _ _ _ (T16.setTop (mkF m 17 #[.val (.int p1)] [(.int p1), (.ref ca)]))
      refine own_st (fun _ k => XS.sipush X16.here hx rfl (hb hby own_d_jdk_33_method_22_code_17) k) ?_
      show own_Gl _ _ _ _ _ _ _ (T16.setTop (mkF m 20 #[.val (.int p1)] [(.int (128 : Int32)), (.int p1), (.ref ca)]))
      refine own_st (fun _ k => XS.iadd X16.here hx rfl (hb hby own_d_jdk_33_method_22_code_20) rfl k) ?_
      show own_Gl _ _ _ _ _ _ _ (T16.setTop (mkF m 21 #[.val (.int p1)] [(.int (p1 + (128 : Int32))), (.ref ca)]))
      obtain ⟨hp1, hp2⟩ := own_place p1 hc3 hc10
      obtain ⟨r9, hr9, er9⟩ := hcache _ hp1 hp2
      have hin9 : ¬ ((p1 + (128 : Int32)) < 0 ∨ ccl.slots.size ≤ (p1 + (128 : Int32)).toNatClampNeg) := inb_of (z := (256 : Int32)) hcs ⟨hp1, hp2⟩
      refine own_st (X16.aaload hx (j := (p1 + (128 : Int32))) (v := .ref r9) (by rw [e16]; exact hca.1) (State.isArrayOf_alike hZ.alike hca.2.1) rfl hca.2.2 hin9 hr9 (g := (mkF m 21 #[.val (.int p1)] [(.int (p1 + (128 : Int32))), (.ref ca)])) rfl rfl (hb hby own_d_jdk_33_method_22_code_21)) ?_
      show own_Gl _ _ _ _ _ _ _ (T16.setTop (mkF m 22 #[.val (.int p1)] [(.ref r9)]))
      exact own_retA X16 hx hlk hret rfl rfl rfl (hb hby own_d_jdk_33_method_22_code_22) e16 ⟨r9, rfl, N0, (Keep.refl h0 []), er9⟩ (by decide) (by decide)
theorem own_d_prog_4_method_4_code_0 : decode prog_4_method_4_code 0 = .ok (.aload_n 1, 1) := by decide +kernel
theorem own_d_prog_4_method_4_code_1 : decode prog_4_method_4_code 1 = .ok (.instanceof 8, 3) := by decide +kernel
theorem own_d_prog_4_method_4_code_4 : decode prog_4_method_4_code 4 = .ok (.ifCond .eq 34, 3) := by decide +kernel
theorem own_d_prog_4_method_4_code_38 : decode prog_4_method_4_code 38 = .ok (.iconst 0, 1) := by decide +kernel
theorem own_d_prog_4_method_4_code_39 : decode prog_4_method_4_code 39 = .ok (.ireturn, 1) := by decide +kernel
theorem own_ef_own_eq_null (m : MethodId) (x0 : Addr) : entryFrame m #[(.ref x0), .null] 3 = mkF m 0 #[.val (.ref x0), .val .null, .unset] [] := by first | (simp [entryFrame, mkF, argsToLocals, Value.category]; done) | rfl
def own_Q_own_eq_null (Z : State) (a : Addr) (h0 : Heap) (n0 : Nat) (v : Option Value) (h : Heap) (L : List Loc) : Prop := (v = some (.int (0 : Int32))) ∧ (Fr n0 L) ∧ (h = h0)
set_option maxRecDepth 65536 in
set_option maxHeartbeats 40000000 in
theorem own_eq_null (l : Launch) (Z : State) (a0 : Array Value) (hw : ∀ d ∈ tables_1, d.before a0 Z = true) (ws : List Jvm.Cond) (a : Addr) (h0 : Heap) (n0 : Nat) (Z0 : n0 ≤ h0.size) :
    MetFree l (⟨"com/example/ewig/ewig/LogRotation", "equals", "(Ljava/lang/Object;)Z"⟩ : MethodName) (head1 (Jvm.Cond.code (⟨"com/example/ewig/ewig/LogRotation", "equals", "(Ljava/lang/Object;)Z"⟩ : MethodName) prog_4_method_4_code 3 (some .boolean) :: ws) ({ frames := 0, cells := 0, slots := 0, locals := 0 } : Room)) (fun xa xU => xa = #[(.ref a), .null] ∧ Z.Warmed39 xU.vm ∧ xU.heap = h0) (fun _ _ _ _ _ => True) (fun _ xU xo xV => ∃ v L, xo = .returned v ∧ own_Q_own_eq_null Z a h0 n0 v xV.heap L ∧ FrameEnd xU xo xV L ({ frames := 0, cells := 0, slots := 0, locals := 0 } : Room).cells ({ frames := 0, cells := 0, slots := 0, locals := 0 } : Room).slots) := by
  refine MetFree.of_bodySF (plainFor_of_name own_pn555926024) hisR ?_
  intro p e s m args below meth c s₁ Bd hml0 hP hK
  obtain ⟨rfl, hZ, hh⟩ := hP
  have hx := Bd.exec
  have hby := Bd.bytes
  have hlk := Bd.notSynchronized
  have hret := Bd.returns
  have hml : c.maxLocals = 3 := hml0
  have hown : s.vm.findClass "com/example/ewig/ewig/LogRotation" = some m.cls := findClass_of_methodNamed Bd.named
  have hnm := (name_of_methodNamed Bd.named Bd.method).1
  have X0 : Stand p l e ({ frames := 0, cells := 0, slots := 0, locals := 0 } : Room) s m #[(.ref a), .null] below meth c s₁ [] 0 0 := Stand.of_body Bd
  have e0 : s₁.heap = h0 := by rw [← hh, Bd.state]; rfl
  have N0 := Fr.nil n0
  show own_Gl p e below s (own_Q_own_eq_null Z a h0 n0) ({ frames := 0, cells := 0, slots := 0, locals := 0 } : Room).cells ({ frames := 0, cells := 0, slots := 0, locals := 0 } : Room).slots _
  refine own_cast (own_ef_own_eq_null m a) ?_
  show own_Gl _ _ _ _ _ _ _ (s₁.setTop (mkF m 0 #[.val (.ref a), .val .null, .unset] []))
  refine own_st (fun _ k => XS.aloadN X0.here hx rfl (hb hby own_d_prog_4_method_4_code_0) rfl rfl k) ?_
  show own_Gl _ _ _ _ _ _ _ (s₁.setTop (mkF m 1 #[.val (.ref a), .val .null, .unset] [.null]))
  refine own_st (X0.instanceofNull hx (g := (mkF m 1 #[.val (.ref a), .val .null, .unset] [.null])) rfl rfl (hb hby own_d_prog_4_method_4_code_1)) ?_
  show own_Gl _ _ _ _ _ _ _ (s₁.setTop (mkF m 4 #[.val (.ref a), .val .null, .unset] [(.int (0 : Int32))]))
  have hd1 : (0 : Int32) = (0 : Int32) := (by decide)
  refine own_st (fun _ k => XS.ifYes X0.here hx rfl (pc0 := 4) (pc' := 38) rfl (hb hby own_d_prog_4_method_4_code_4) rfl ((if0 _ _).trans (teq hd1).1) (by decide) (by decide) k) ?_
  show own_Gl _ _ _ _ _ _ _ (s₁.setTop (mkF m 38 #[.val (.ref a), .val .null, .unset] []))
  refine own_st (fun _ k => XS.iconst X0.here hx rfl (hb hby own_d_prog_4_method_4_code_38) k) ?_
  show own_Gl _ _ _ _ _ _ _ (s₁.setTop (mkF m 39 #[.val (.ref a), .val .null, .unset] [(.int (0 : Int32))]))
  exact own_retN X0 hx hlk (t := .boolean) hret (by simp) (hb hby own_d_prog_4_method_4_code_39) e0 ⟨rfl, N0, rfl⟩ (by decide) (by decide)
theorem own_ef_own_eq_int (m : MethodId) (x0 : Addr) (x1 : Addr) : entryFrame m #[(.ref x0), (.ref x1)] 3 = mkF m 0 #[.val (.ref x0), .val (.ref x1), .unset] [] := by first | (simp [entryFrame, mkF, argsToLocals, Value.category]; done) | rfl
def own_Q_own_eq_int (Z : State) (a : Addr) (o : Addr) (h0 : Heap) (n0 : Nat) (v : Option Value) (h : Heap) (L : List Loc) : Prop := (v = some (.int (0 : Int32))) ∧ (Fr n0 L) ∧ (h = h0)
set_option maxRecDepth 65536 in
set_option maxHeartbeats 40000000 in
theorem own_eq_int (l : Launch) (Z : State) (a0 : Array Value) (hw : ∀ d ∈ tables_1, d.before a0 Z = true) (ws : List Jvm.Cond) (a : Addr) (o : Addr) (h0 : Heap) (n0 : Nat) (Z0 : n0 ≤ h0.size) (E_o : Exa Z h0 o "java/lang/Integer") :
    MetFree l (⟨"com/example/ewig/ewig/LogRotation", "equals", "(Ljava/lang/Object;)Z"⟩ : MethodName) (head1 (Jvm.Cond.code (⟨"com/example/ewig/ewig/LogRotation", "equals", "(Ljava/lang/Object;)Z"⟩ : MethodName) prog_4_method_4_code 3 (some .boolean) :: ws) ({ frames := 0, cells := 0, slots := 0, locals := 0 } : Room)) (fun xa xU => xa = #[(.ref a), (.ref o)] ∧ Z.Warmed39 xU.vm ∧ xU.heap = h0) (fun _ _ _ _ _ => True) (fun _ xU xo xV => ∃ v L, xo = .returned v ∧ own_Q_own_eq_int Z a o h0 n0 v xV.heap L ∧ FrameEnd xU xo xV L ({ frames := 0, cells := 0, slots := 0, locals := 0 } : Room).cells ({ frames := 0, cells := 0, slots := 0, locals := 0 } : Room).slots) := by
  refine MetFree.of_bodySF (plainFor_of_name own_pn555926024) hisR ?_
  intro p e s m args below meth c s₁ Bd hml0 hP hK
  obtain ⟨rfl, hZ, hh⟩ := hP
  have hx := Bd.exec
  have hby := Bd.bytes
  have hlk := Bd.notSynchronized
  have hret := Bd.returns
  have hml : c.maxLocals = 3 := hml0
  have hown : s.vm.findClass "com/example/ewig/ewig/LogRotation" = some m.cls := findClass_of_methodNamed Bd.named
  have hnm := (name_of_methodNamed Bd.named Bd.method).1
  have X0 : Stand p l e ({ frames := 0, cells := 0, slots := 0, locals := 0 } : Room) s m #[(.ref a), (.ref o)] below meth c s₁ [] 0 0 := Stand.of_body Bd
  have e0 : s₁.heap = h0 := by rw [← hh, Bd.state]; rfl
  have N0 := Fr.nil n0
  show own_Gl p e below s (own_Q_own_eq_int Z a o h0 n0) ({ frames := 0, cells := 0, slots := 0, locals := 0 } : Room).cells ({ frames := 0, cells := 0, slots := 0, locals := 0 } : Room).slots _
  refine own_cast (own_ef_own_eq_int m a o) ?_
  show own_Gl _ _ _ _ _ _ _ (s₁.setTop (mkF m 0 #[.val (.ref a), .val (.ref o), .unset] []))
  refine own_st (fun _ k => XS.aloadN X0.here hx rfl (hb hby own_d_prog_4_method_4_code_0) rfl rfl k) ?_
  show own_Gl _ _ _ _ _ _ _ (s₁.setTop (mkF m 1 #[.val (.ref a), .val (.ref o), .unset] [(.ref o)]))
  obtain ⟨T1, X1, e1, st1⟩ := instNo X0 hx hZ hown (hw _ (List.mem_of_getElem? (i := 18) rfl)) e0 E_o (own_nolog Z a0 hw) (g := (mkF m 1 #[.val (.ref a), .val (.ref o), .unset] [(.ref o)])) rfl rfl (hb hby own_d_prog_4_method_4_code_1)
  refine own_st st1 ?_
  show own_Gl _ _ _ _ _ _ _ (T1.setTop (mkF m 4 #[.val (.ref a), .val (.ref o), .unset] [(.int (0 : Int32))]))
  have hd2 : (0 : Int32) = (0 : Int32) := (by decide)
  refine own_st (fun _ k => XS.ifYes X1.here hx rfl (pc0 := 4) (pc' := 38) rfl (hb hby own_d_prog_4_method_4_code_4) rfl ((if0 _ _).trans (teq hd2).1) (by decide) (by decide) k) ?_
  show own_Gl _ _ _ _ _ _ _ (T1.setTop (mkF m 38 #[.val (.ref a), .val (.ref o), .unset] []))
  refine own_st (fun _ k => XS.iconst X1.here hx rfl (hb hby own_d_prog_4_method_4_code_38) k) ?_
  show own_Gl _ _ _ _ _ _ _ (T1.setTop (mkF m 39 #[.val (.ref a), .val (.ref o), .unset] [(.int (0 : Int32))]))
  exact own_retN X1 hx hlk (t := .boolean) hret (by simp) (hb hby own_d_prog_4_method_4_code_39) e1 ⟨rfl, N0, rfl⟩ (by decide) (by decide)
theorem own_d_prog_4_method_4_code_7 : decode prog_4_method_4_code 7 = .ok (.aload_n 1, 1) := by decide +kernel
theorem own_d_prog_4_method_4_code_8 : decode prog_4_method_4_code 8 = .ok (.checkcast 8, 3) := by decide +kernel
theorem own_d_prog_4_method_4_code_11 : decode prog_4_method_4_code 11 = .ok (.astore_n 2, 1) := by decide +kernel
theorem own_d_prog_4_method_4_code_12 : decode prog_4_method_4_code 12 = .ok (.aload_n 0, 1) := by decide +kernel
theorem own_d_prog_4_method_4_code_13 : decode prog_4_method_4_code 13 = .ok (.getfield 7, 3) := by decide +kernel
theorem own_d_prog_4_method_4_code_16 : decode prog_4_method_4_code 16 = .ok (.aload_n 2, 1) := by decide +kernel
theorem own_d_prog_4_method_4_code_17 : decode prog_4_method_4_code 17 = .ok (.getfield 7, 3) := by decide +kernel
theorem own_d_prog_4_method_4_code_20 : decode prog_4_method_4_code 20 = .ok (.if_icmp .ne 18, 3) := by decide +kernel
theorem own_d_prog_4_method_4_code_23 : decode prog_4_method_4_code 23 = .ok (.aload_n 0, 1) := by decide +kernel
theorem own_d_prog_4_method_4_code_24 : decode prog_4_method_4_code 24 = .ok (.getfield 13, 3) := by decide +kernel
theorem own_d_prog_4_method_4_code_27 : decode prog_4_method_4_code 27 = .ok (.aload_n 2, 1) := by decide +kernel
theorem own_d_prog_4_method_4_code_28 : decode prog_4_method_4_code 28 = .ok (.getfield 13, 3) := by decide +kernel
theorem own_d_prog_4_method_4_code_31 : decode prog_4_method_4_code 31 = .ok (.if_icmp .ne 7, 3) := by decide +kernel
theorem own_d_prog_4_method_4_code_34 : decode prog_4_method_4_code 34 = .ok (.iconst 1, 1) := by decide +kernel
theorem own_d_prog_4_method_4_code_35 : decode prog_4_method_4_code 35 = .ok (.goto 4, 3) := by decide +kernel
theorem own_ef_own_eq_obj (m : MethodId) (x0 : Addr) (x1 : Addr) : entryFrame m #[(.ref x0), (.ref x1)] 3 = mkF m 0 #[.val (.ref x0), .val (.ref x1), .unset] [] := by first | (simp [entryFrame, mkF, argsToLocals, Value.category]; done) | rfl
def own_Q_own_eq_obj (Z : State) (a : Addr) (o : Addr) (p1 : Int32) (p2 : Int32) (p3 : Int32) (p4 : Int32) (h0 : Heap) (n0 : Nat) (v : Option Value) (h : Heap) (L : List Loc) : Prop := (v = some (.int (if p1 = p3 then (if p2 = p4 then (1 : Int32) else (0 : Int32)) else (0 : Int32)))) ∧ (Fr n0 L) ∧ (h = h0)
set_option maxRecDepth 65536 in
set_option maxHeartbeats 40000000 in
theorem own_eq_obj (l : Launch) (Z : State) (a0 : Array Value) (hw : ∀ d ∈ tables_1, d.before a0 Z = true) (ws : List Jvm.Cond) (a : Addr) (o : Addr) (p1 : Int32) (p2 : Int32) (p3 : Int32) (p4 : Int32) (h0 : Heap) (n0 : Nat) (Z0 : n0 ≤ h0.size) (E_o : Exa Z h0 o "com/example/ewig/ewig/LogRotation") (F_a_size : Fld Z h0 a "com/example/ewig/ewig/LogRotation" "size" "I" (.int p1)) (F_a_keep : Fld Z h0 a "com/example/ewig/ewig/LogRotation" "keep" "I" (.int p2)) (F_o_size : Fld Z h0 o "com/example/ewig/ewig/LogRotation" "size" "I" (.int p3)) (F_o_keep : Fld Z h0 o "com/example/ewig/ewig/LogRotation" "keep" "I" (.int p4)) :
    MetFree l (⟨"com/example/ewig/ewig/LogRotation", "equals", "(Ljava/lang/Object;)Z"⟩ : MethodName) (head1 (Jvm.Cond.code (⟨"com/example/ewig/ewig/LogRotation", "equals", "(Ljava/lang/Object;)Z"⟩ : MethodName) prog_4_method_4_code 3 (some .boolean) :: ws) ({ frames := 0, cells := 0, slots := 0, locals := 0 } : Room)) (fun xa xU => xa = #[(.ref a), (.ref o)] ∧ Z.Warmed39 xU.vm ∧ xU.heap = h0) (fun _ _ _ _ _ => True) (fun _ xU xo xV => ∃ v L, xo = .returned v ∧ own_Q_own_eq_obj Z a o p1 p2 p3 p4 h0 n0 v xV.heap L ∧ FrameEnd xU xo xV L ({ frames := 0, cells := 0, slots := 0, locals := 0 } : Room).cells ({ frames := 0, cells := 0, slots := 0, locals := 0 } : Room).slots) := by
  refine MetFree.of_bodySF (plainFor_of_name own_pn555926024) hisR ?_
  intro p e s m args below meth c s₁ Bd hml0 hP hK
  obtain ⟨rfl, hZ, hh⟩ := hP
  have hx := Bd.exec
  have hby := Bd.bytes
  have hlk := Bd.notSynchronized
  have hret := Bd.returns
  have hml : c.maxLocals = 3 := hml0
  have hown : s.vm.findClass "com/example/ewig/ewig/LogRotation" = some m.cls := findClass_of_methodNamed Bd.named
  have hnm := (name_of_methodNamed Bd.named Bd.method).1
  have X0 : Stand p l e ({ frames := 0, cells := 0, slots := 0, locals := 0 } : Room) s m #[(.ref a), (.ref o)] below meth c s₁ [] 0 0 := Stand.of_body Bd
  have e0 : s₁.heap = h0 := by rw [← hh, Bd.state]; rfl
  have N0 := Fr.nil n0
  show own_Gl p e below s (own_Q_own_eq_obj Z a o p1 p2 p3 p4 h0 n0) ({ frames := 0, cells := 0, slots := 0, locals := 0 } : Room).cells ({ frames := 0, cells := 0, slots := 0, locals := 0 } : Room).slots _
  refine own_cast (own_ef_own_eq_obj m a o) ?_
  show own_Gl _ _ _ _ _ _ _ (s₁.setTop (mkF m 0 #[.val (.ref a), .val (.ref o), .unset] []))
  refine own_st (fun _ k => XS.aloadN X0.here hx rfl (hb hby own_d_prog_4_method_4_code_0) rfl rfl k) ?_
  show own_Gl _ _ _ _ _ _ _ (s₁.setTop (mkF m 1 #[.val (.ref a), .val (.ref o), .unset] [(.ref o)]))
  obtain ⟨T1, X1, e1, st1⟩ := instY X0 hx hZ hown (hw _ (List.mem_of_getElem? (i := 18) rfl)) e0 (Ins.self E_o) (g := (mkF m 1 #[.val (.ref a), .val (.ref o), .unset] [(.ref o)])) rfl rfl (hb hby own_d_prog_4_method_4_code_1)
  refine own_st st1 ?_
  show own_Gl _ _ _ _ _ _ _ (T1.setTop (mkF m 4 #[.val (.ref a), .val (.ref o), .unset] [(.int (1 : Int32))]))
  have hd2 : ¬ ((1 : Int32) = (0 : Int32)) := (by decide)
  refine own_st (fun _ k => XS.ifNo X1.here hx rfl (hb hby own_d_prog_4_method_4_code_4) rfl ((if0 _ _).trans (feq hd2).1) k) ?_
  show own_Gl _ _ _ _ _ _ _ (T1.setTop (mkF m 7 #[.val (.ref a), .val (.ref o), .unset] []))
  refine own_st (fun _ k => XS.aloadN X1.here hx rfl (hb hby own_d_prog_4_method_4_code_7) rfl rfl k) ?_
  show own_Gl _ _ _ _ _ _ _ (T1.setTop (mkF m 8 #[.val (.ref a), .val (.ref o), .unset] [(.ref o)]))
  obtain ⟨T3, X3, e3, st3⟩ := castY X1 hx hZ hown (hw _ (List.mem_of_getElem? (i := 18) rfl)) e1 (Ins.self E_o) (g := (mkF m 8 #[.val (.ref a), .val (.ref o), .unset] [(.ref o)])) rfl rfl (hb hby own_d_prog_4_method_4_code_8)
  refine own_st st3 ?_
  show own_Gl _ _ _ _ _ _ _ (T3.setTop (mkF m 11 #[.val (.ref a), .val (.ref o), .unset] [(.ref o)]))
  refine own_st (fun _ k => XS.astoreN X3.here hx rfl (hb hby own_d_prog_4_method_4_code_11) rfl rfl (l' := #[.val (.ref a), .val (.ref o), .val (.ref o)]) rfl k) ?_
  show own_Gl _ _ _ _ _ _ _ (T3.setTop (mkF m 12 #[.val (.ref a), .val (.ref o), .val (.ref o)] []))
  refine own_st (fun _ k => XS.aloadN X3.here hx rfl (hb hby own_d_prog_4_method_4_code_12) rfl rfl k) ?_
  show own_Gl _ _ _ _ _ _ _ (T3.setTop (mkF m 13 #[.val (.ref a), .val (.ref o), .val (.ref o)] [(.ref a)]))
  obtain ⟨T4, X4, e4, st4⟩ := getF X3 hx hZ hown (host := "") (Or.inl (hw _ (List.mem_of_getElem? (i := 9) rfl))) Via.refl e3 F_a_size (g := (mkF m 13 #[.val (.ref a), .val (.ref o), .val (.ref o)] [(.ref a)])) rfl rfl (hb hby own_d_prog_4_method_4_code_13)
  refine own_st st4 ?_
  show own_Gl _ _ _ _ _ _ _ (T4.setTop (mkF m 16 #[.val (.ref a), .val (.ref o), .val (.ref o)] [(.int p1)]))
  refine own_st (fun _ k => XS.aloadN X4.here hx rfl (hb hby own_d_prog_4_method_4_code_16) rfl rfl k) ?_
  show own_Gl _ _ _ _ _ _ _ (T4.setTop (mkF m 17 #[.val (.ref a), .val (.ref o), .val (.ref o)] [(.ref o), (.int p1)]))
  obtain ⟨T5, X5, e5, st5⟩ := getF X4 hx hZ hown (host := "") (Or.inl (hw _ (List.mem_of_getElem? (i := 9) rfl))) Via.refl e4 F_o_size (g := (mkF m 17 #[.val (.ref a), .val (.ref o), .val (.ref o)] [(.ref o), (.int p1)])) rfl rfl (hb hby own_d_prog_4_method_4_code_17)
  refine own_st st5 ?_
  show own_Gl _ _ _ _ _ _ _ (T5.setTop (mkF m 20 #[.val (.ref a), .val (.ref o), .val (.ref o)] [(.int p3), (.int p1)]))
  by_cases hc20 : p1 = p3
  · refine own_st (fun _ k => XS.icmpNo X5.here hx rfl (hb hby own_d_prog_4_method_4_code_20) rfl (teq hc20).2 k) ?_
    show own_Gl _ _ _ _ _ _ _ (T5.setTop (mkF m 23 #[.val (.ref a), .val (.ref o), .val (.ref o)] []))
    refine own_st (fun _ k => XS.aloadN X5.here hx rfl (hb hby own_d_prog_4_method_4_code_23) rfl rfl k) ?_
    show own_Gl _ _ _ _ _ _ _ (T5.setTop (mkF m 24 #[.val (.ref a), .val (.ref o), .val (.ref o)] [(.ref a)]))
    obtain ⟨T6, X6, e6, st6⟩ := getF X5 hx hZ hown (host := "") (Or.inl (hw _ (List.mem_of_getElem? (i := 11) rfl))) Via.refl e5 F_a_keep (g := (mkF m 24 #[.val (.ref a), .val (.ref o), .val (.ref o)] [(.ref a)])) rfl rfl (hb hby own_d_prog_4_method_4_code_24)
    refine own_st st6 ?_
    show own_Gl _ _ _ _ _ _ _ (T6.setTop (mkF m 27 #[.val (.ref a), .val (.ref o), .val (.ref o)] [(.int p2)]))
    refine own_st (fun _ k => XS.aloadN X6.here hx rfl (hb hby own_d_prog_4_method_4_code_27) rfl rfl k) ?_
    show own_Gl _ _ _ _ _ _ _ (T6.setTop (mkF m 28 #[.val (.ref a), .val (.ref o), .val (.ref o)] [(.ref o), (.int p2)]))
    obtain ⟨T7, X7, e7, st7⟩ := getF X6 hx hZ hown (host := "") (Or.inl (hw _ (List.mem_of_getElem? (i := 11) rfl))) Via.refl e6 F_o_keep (g := (mkF m 28 #[.val (.ref a), .val (.ref o), .val (.ref o)] [(.ref o), (.int p2)])) rfl rfl (hb hby own_d_prog_4_method_4_code_28)
    refine own_st st7 ?_
    show own_Gl _ _ _ _ _ _ _ (T7.setTop (mkF m 31 #[.val (.ref a), .val (.ref o), .val (.ref o)] [(.int p4), (.int p2)]))
    by_cases hc31 : p2 = p4
    · refine own_st (fun _ k => XS.icmpNo X7.here hx rfl (hb hby own_d_prog_4_method_4_code_31) rfl (teq hc31).2 k) ?_
      show own_Gl _ _ _ _ _ _ _ (T7.setTop (mkF m 34 #[.val (.ref a), .val (.ref o), .val (.ref o)] []))
      refine own_st (fun _ k => XS.iconst X7.here hx rfl (hb hby own_d_prog_4_method_4_code_34) k) ?_
      show own_Gl _ _ _ _ _ _ _ (T7.setTop (mkF m 35 #[.val (.ref a), .val (.ref o), .val (.ref o)] [(.int (1 : Int32))]))
      refine own_st (fun _ k => XS.goto X7.here hx rfl (pc0 := 35) (pc' := 39) rfl (hb hby own_d_prog_4_method_4_code_35) (by decide) (by decide) k) ?_
      show own_Gl _ _ _ _ _ _ _ (T7.setTop (mkF m 39 #[.val (.ref a), .val (.ref o), .val (.ref o)] [(.int (1 : Int32))]))
      exact own_retN X7 hx hlk (t := .boolean) hret (by simp) (hb hby own_d_prog_4_method_4_code_39) e7 ⟨by rw [if_pos hc20, if_pos hc31] <;> rfl, N0, rfl⟩ (by decide) (by decide)
    · refine own_st (fun _ k => XS.icmpYes X7.here hx rfl (pc0 := 31) (pc' := 38) rfl (hb hby own_d_prog_4_method_4_code_31) rfl (feq hc31).2 (by decide) (by decide) k) ?_
      show own_Gl _ _ _ _ _ _ _ (T7.setTop (mkF m 38 #[.val (.ref a), .val (.ref o), .val (.ref o)] []))
      refine own_st (fun _ k => XS.iconst X7.here hx rfl (hb hby own_d_prog_4_method_4_code_38) k) ?_
      show own_Gl _ _ _ _ _ _ _ (T7.setTop (mkF m 39 #[.val (.ref a), .val (.ref o), .val (.ref o)] [(.int (0 : Int32))]))
      exact own_retN X7 hx hlk (t := .boolean) hret (by simp) (hb hby own_d_prog_4_method_4_code_39) e7 ⟨by rw [if_pos hc20, if_neg hc31] <;> rfl, N0, rfl⟩ (by decide) (by decide)
  · refine own_st (fun _ k => XS.icmpYes X5.here hx rfl (pc0 := 20) (pc' := 38) rfl (hb hby own_d_prog_4_method_4_code_20) rfl (feq hc20).2 (by decide) (by decide) k) ?_
    show own_Gl _ _ _ _ _ _ _ (T5.setTop (mkF m 38 #[.val (.ref a), .val (.ref o), .val (.ref o)] []))
    refine own_st (fun _ k => XS.iconst X5.here hx rfl (hb hby own_d_prog_4_method_4_code_38) k) ?_
    show own_Gl _ _ _ _ _ _ _ (T5.setTop (mkF m 39 #[.val (.ref a), .val (.ref o), .val (.ref o)] [(.int (0 : Int32))]))
    exact own_retN X5 hx hlk (t := .boolean) hret (by simp) (hb hby own_d_prog_4_method_4_code_39) e5 ⟨by rw [if_neg hc20] <;> rfl, N0, rfl⟩ (by decide) (by decide)
theorem own_pd945365693 : parseMethodDescriptor "(II)V" = some ⟨[.int, .int], none⟩ := by decide +kernel
theorem own_pd963338152 : parseMethodDescriptor "(Ljava/lang/Object;)Z" = some ⟨[(.object "java/lang/Object")], some .boolean⟩ := by decide +kernel
theorem own_pd948847338 : parseMethodDescriptor "(I)Ljava/lang/Integer;" = some ⟨[.int], some (.object "java/lang/Integer")⟩ := by decide +kernel
theorem own_ef_own_law (m : MethodId) (x0 : Int32) (x1 : Int32) (x2 : Int32) (x3 : Int32) (x4 : Int32) : entryFrame m #[(.int x0), (.int x1), (.int x2), (.int x3), (.int x4)] maxLocals = mkF m 0 #[.val (.int x0), .val (.int x1), .val (.int x2), .val (.int x3), .val (.int x4), .unset, .unset, .unset, .unset, .unset, .unset, .unset, .unset, .unset, .unset] [] := by first | (simp [entryFrame, mkF, argsToLocals, Value.category, maxLocals]; done) | rfl
def own_Q_own_law (Z : State) (p1 : Int32) (p2 : Int32) (p3 : Int32) (p4 : Int32) (p5 : Int32) (ca : Addr) (ccl : Cell) (h0 : Heap) (n0 : Nat) (v : Option Value) (h : Heap) (L : List Loc) : Prop := v = some (.int 1) ∧ Fr n0 L
theorem own_pn861401413 : plainName "com/example/ewig/ewig/LogRotationEqualsPinLaw" = true := by first | (simp [plainName, overriddenIn]; done) | decide +kernel
set_option maxRecDepth 65536 in
set_option maxHeartbeats 40000000 in
theorem own_law (l : Launch) (Z : State) (a0 : Array Value) (hw : ∀ d ∈ tables_1, d.before a0 Z = true) (ws : List Jvm.Cond) (p1 : Int32) (p2 : Int32) (p3 : Int32) (p4 : Int32) (p5 : Int32) (ca : Addr) (ccl : Cell) (h0 : Heap) (n0 : Nat) (Z0 : n0 ≤ h0.size) (Old0 : Old Z n0 h0) (S_high : Sta Z Z.heap "java/lang/Integer$IntegerCache" "high" "I" (.int (127 : Int32))) (S_cache : Sta Z Z.heap "java/lang/Integer$IntegerCache" "cache" "[Ljava/lang/Integer;" (.ref ca)) (hcaZ : Arr Z Z.heap ca ccl (.object "java/lang/Integer")) (hcs : ccl.slots.size = (256 : Int32).toNatClampNeg) (hcacheZ : ∀ j : Int32, ¬ j < 0 → j < (256 : Int32) → ∃ r : Addr, ccl.slots[j.toNatClampNeg]? = some (.ref r) ∧ Exa Z Z.heap r "java/lang/Integer") :
    MetFree l x (head1 (Jvm.Cond.code x code maxLocals ret :: ws) room_1) (fun xa xU => xa = #[(.int p1), (.int p2), (.int p3), (.int p4), (.int p5)] ∧ Z.Warmed39 xU.vm ∧ xU.heap = h0) (fun _ _ _ _ _ => True) (fun _ xU xo xV => ∃ v L, xo = .returned v ∧ own_Q_own_law Z p1 p2 p3 p4 p5 ca ccl h0 n0 v xV.heap L ∧ FrameEnd xU xo xV L room_1.cells room_1.slots) := by
  refine MetFree.of_bodySF (plainFor_of_name own_pn861401413) hisR ?_
  intro p e s m args below meth c s₁ Bd hml0 hP hK
  obtain ⟨rfl, hZ, hh⟩ := hP
  have hx := Bd.exec
  have hby := Bd.bytes
  have hlk := Bd.notSynchronized
  have hret := Bd.returns
  have hml : c.maxLocals = 15 := hml0
  have hown : s.vm.findClass "com/example/ewig/ewig/LogRotationEqualsPinLaw" = some m.cls := findClass_of_methodNamed Bd.named
  have hnm := (name_of_methodNamed Bd.named Bd.method).1
  have X0 : Stand p l e room_1 s m #[(.int p1), (.int p2), (.int p3), (.int p4), (.int p5)] below meth c s₁ [] 0 0 := Stand.of_body Bd
  have e0 : s₁.heap = h0 := by rw [← hh, Bd.state]; rfl
  have N0 := Fr.nil n0
  show own_Gl p e below s (own_Q_own_law Z p1 p2 p3 p4 p5 ca ccl h0 n0) room_1.cells room_1.slots _
  refine own_cast (own_ef_own_law m p1 p2 p3 p4 p5) ?_
  show own_Gl _ _ _ _ _ _ _ (s₁.setTop (mkF m 0 #[.val (.int p1), .val (.int p2), .val (.int p3), .val (.int p4), .val (.int p5), .unset, .unset, .unset, .unset, .unset, .unset, .unset, .unset, .unset, .unset] []))
  obtain ⟨T1, h1, X1, e1, E1, A1, D1, -, st1⟩ := newO X0 hx hZ hown (hw _ (List.mem_of_getElem? (i := 0) rfl)) (hw _ (List.mem_of_getElem? (i := 1) rfl)) (hw _ (List.mem_of_getElem? (i := 2) rfl)) e0 (g := (mkF m 0 #[.val (.int p1), .val (.int p2), .val (.int p3), .val (.int p4), .val (.int p5), .unset, .unset, .unset, .unset, .unset, .unset, .unset, .unset, .unset, .unset] [])) rfl (hb hby at_0) (by decide) (by decide)
  obtain ⟨b1, gb1⟩ : ∃ z, z = h0.size := ⟨_, rfl⟩
  rw [← gb1] at A1 D1 st1
  refine own_st st1 ?_
  have Zs2 : n0 ≤ h1.size := Nat.le_trans Z0 E1.1
  have g_b1 : n0 ≤ b1 := Nat.le_trans Z0 (Nat.le_of_eq gb1.symm)
  have gh_b1 : h0.size ≤ b1 := Nat.le_trans (Keep.refl h0 []).1 (Nat.le_of_eq gb1.symm)
  have F_size_b1 : Fld Z h1 b1 "com/example/ewig/ewig/LogRotation" "size" "I" (.int (0 : Int32)) := D1 (Or.inr (hw _ (List.mem_of_getElem? (i := 10) rfl))) (ty := .int) (by decide)
  have F_keep_b1 : Fld Z h1 b1 "com/example/ewig/ewig/LogRotation" "keep" "I" (.int (0 : Int32)) := D1 (Or.inr (hw _ (List.mem_of_getElem? (i := 12) rfl))) (ty := .int) (by decide)
  show own_Gl _ _ _ _ _ _ _ (T1.setTop (mkF m 3 #[.val (.int p1), .val (.int p2), .val (.int p3), .val (.int p4), .val (.int p5), .unset, .unset, .unset, .unset, .unset, .unset, .unset, .unset, .unset, .unset] [(.ref b1)]))
  refine own_st (fun _ k => XS.dup X1.here hx rfl (hb hby at_3) rfl rfl k) ?_
  show own_Gl _ _ _ _ _ _ _ (T1.setTop (mkF m 4 #[.val (.int p1), .val (.int p2), .val (.int p3), .val (.int p4), .val (.int p5), .unset, .unset, .unset, .unset, .unset, .unset, .unset, .unset, .unset, .unset] [(.ref b1), (.ref b1)]))
  refine own_st (fun _ k => XS.iloadN X1.here hx rfl (hb hby at_4) rfl k) ?_
  show own_Gl _ _ _ _ _ _ _ (T1.setTop (mkF m 5 #[.val (.int p1), .val (.int p2), .val (.int p3), .val (.int p4), .val (.int p5), .unset, .unset, .unset, .unset, .unset, .unset, .unset, .unset, .unset, .unset] [(.int p1), (.ref b1), (.ref b1)]))
  refine own_st (fun _ k => XS.iloadN X1.here hx rfl (hb hby at_5) rfl k) ?_
  show own_Gl _ _ _ _ _ _ _ (T1.setTop (mkF m 6 #[.val (.int p1), .val (.int p2), .val (.int p3), .val (.int p4), .val (.int p5), .unset, .unset, .unset, .unset, .unset, .unset, .unset, .unset, .unset, .unset] [(.int p2), (.int p1), (.ref b1), (.ref b1)]))
  obtain ⟨_, _, ⟨T4, L4, k4, n4⟩, -, X4, ⟨Lc4, hQ4, l4, y4, z4⟩, st4⟩ := X1.specialBack hx (y := (⟨"com/example/ewig/ewig/LogRotation", "<init>", "(II)V"⟩ : MethodName)) rfl hown (mvT hZ (hw _ (List.mem_of_getElem? (i := 3) rfl))) (mvT hZ (hw _ (List.mem_of_getElem? (i := 4) rfl))) (mvT hZ (hw _ (List.mem_of_getElem? (i := 5) rfl))) (by decide) (backOf (W := 1) (own_init l Z a0 hw [] b1 p1 p2 h1 n0 Zs2 A1 F_size_b1 F_keep_b1 g_b1) hZ (hw _ (List.mem_of_getElem? (i := 5) rfl)) (hw _ (List.mem_of_getElem? (i := 2) rfl)) (by decide) (by decide)) (g := (mkF m 6 #[.val (.int p1), .val (.int p2), .val (.int p3), .val (.int p4), .val (.int p5), .unset, .unset, .unset, .unset, .unset, .unset, .unset, .unset, .unset, .unset] [(.int p2), (.int p1), (.ref b1), (.ref b1)])) rfl (by rw [hml]; rfl) (Steps.refl _) (a := b1) (argsL := [(.int p1), (.int p2)]) (rest := [(.ref b1)]) (lenOf own_pd945365693 rfl) rfl (by show 2 * 0 + _ ≤ _; exact Nat.le_of_eq rfl) (hb hby at_6) (fun _ _ => ⟨rfl, e1, (by decide : 1 + 0 ≤ room_1.cells), (by decide : 2 + 0 ≤ room_1.slots)⟩)
  dsimp only [Pt.U, Pt.locs, Pt.cells, Pt.slots] at X4 l4 y4 z4 st4 hQ4
  subst l4 y4 z4
  obtain ⟨hh4, eh04⟩ : ∃ z, T4.heap = z := ⟨_, rfl⟩
  rw [eh04] at hQ4
  obtain ⟨rfl, Nq4, Kq4, P4_0, P4_1⟩ := hQ4
  have N4 := Fr.app N0 Nq4
  refine own_tr st4 ?_
  have Zs5 : n0 ≤ hh4.size := Nat.le_trans Zs2 Kq4.1
  show own_Gl _ _ _ _ _ _ _ (T4.setTop (mkF m 9 #[.val (.int p1), .val (.int p2), .val (.int p3), .val (.int p4), .val (.int p5), .unset, .unset, .unset, .unset, .unset, .unset, .unset, .unset, .unset, .unset] [(.ref b1)]))
  refine own_st (fun _ k => XS.astore X4.here hx rfl (hb hby at_9) rfl rfl (l' := #[.val (.int p1), .val (.int p2), .val (.int p3), .val (.int p4), .val (.int p5), .val (.ref b1), .unset, .unset, .unset, .unset, .unset, .unset, .unset, .unset, .unset]) rfl k) ?_
  show own_Gl _ _ _ _ _ _ _ (T4.setTop (mkF m 11 #[.val (.int p1), .val (.int p2), .val (.int p3), .val (.int p4), .val (.int p5), .val (.ref b1), .unset, .unset, .unset, .unset, .unset, .unset, .unset, .unset, .unset] []))
  have J25_6 : ∀ (T6 : State) (LL6 : List Loc) (N6 : Fr n0 LL6) (X6 : Stand p l e room_1 s m #[(.int p1), (.int p2), (.int p3), (.int p4), (.int p5)] below meth c T6 LL6 1 2) (e6 : T6.heap = hh4) (bs : Int32), own_Gl p e below s (own_Q_own_law Z p1 p2 p3 p4 p5 ca ccl h0 n0) room_1.cells room_1.slots (T6.setTop (mkF m 25 #[.val (.int p1), .val (.int p2), .val (.int p3), .val (.int p4), .val (.int p5), .val (.ref b1), .val (.int bs), .unset, .unset, .unset, .unset, .unset, .unset, .unset, .unset] [])) := by
    intro T6 LL6 N6 X6 e6 bs
    show own_Gl _ _ _ _ _ _ _ (T6.setTop (mkF m 25 #[.val (.int p1), .val (.int p2), .val (.int p3), .val (.int p4), .val (.int p5), .val (.ref b1), .val (.int bs), .unset, .unset, .unset, .unset, .unset, .unset, .unset, .unset] []))
    refine own_st (fun _ k => XS.iload X6.here hx rfl (hb hby at_25) rfl k) ?_
    show own_Gl _ _ _ _ _ _ _ (T6.setTop (mkF m 27 #[.val (.int p1), .val (.int p2), .val (.int p3), .val (.int p4), .val (.int p5), .val (.ref b1), .val (.int bs), .unset, .unset, .unset, .unset, .unset, .unset, .unset, .unset] [(.int p5)]))
    have J39_7 : ∀ (T7 : State) (LL7 : List Loc) (N7 : Fr n0 LL7) (X7 : Stand p l e room_1 s m #[(.int p1), (.int p2), (.int p3), (.int p4), (.int p5)] below meth c T7 LL7 1 2) (e7 : T7.heap = hh4) (bk : Int32), own_Gl p e below s (own_Q_own_law Z p1 p2 p3 p4 p5 ca ccl h0 n0) room_1.cells room_1.slots (T7.setTop (mkF m 39 #[.val (.int p1), .val (.int p2), .val (.int p3), .val (.int p4), .val (.int p5), .val (.ref b1), .val (.int bs), .val (.int bk), .unset, .unset, .unset, .unset, .unset, .unset, .unset] [])) := by
      intro T7 LL7 N7 X7 e7 bk
      show own_Gl _ _ _ _ _ _ _ (T7.setTop (mkF m 39 #[.val (.int p1), .val (.int p2), .val (.int p3), .val (.int p4), .val (.int p5), .val (.ref b1), .val (.int bs), .val (.int bk), .unset, .unset, .unset, .unset, .unset, .unset, .unset] []))
      have f8 := (A1.keep Kq4)
      have K9 : Keep h0 hh4 [] := (((Keep.refl h0 []).ext E1).trans Kq4 (allS (Or.inr gh_b1) all0))
      obtain ⟨T10, h10, X10, e10, E10, A10, D10, -, st10⟩ := newO X7 hx hZ hown (hw _ (List.mem_of_getElem? (i := 0) rfl)) (hw _ (List.mem_of_getElem? (i := 1) rfl)) (hw _ (List.mem_of_getElem? (i := 2) rfl)) e7 (g := (mkF m 39 #[.val (.int p1), .val (.int p2), .val (.int p3), .val (.int p4), .val (.int p5), .val (.ref b1), .val (.int bs), .val (.int bk), .unset, .unset, .unset, .unset, .unset, .unset, .unset] [])) rfl (hb hby at_39) (by decide) (by decide)
      obtain ⟨b10, gb10⟩ : ∃ z, z = hh4.size := ⟨_, rfl⟩
      rw [← gb10] at A10 D10 st10
      refine own_st st10 ?_
      have Zs11 : n0 ≤ h10.size := Nat.le_trans Zs5 E10.1
      have g_b10 : n0 ≤ b10 := Nat.le_trans Zs5 (Nat.le_of_eq gb10.symm)
      have gh_b10 : h0.size ≤ b10 := Nat.le_trans K9.1 (Nat.le_of_eq gb10.symm)
      have ne_b1_b10 : b1 ≠ b10 := Nat.ne_of_lt (Nat.lt_of_lt_of_le f8.lt (Nat.le_of_eq gb10.symm))
      have F_size_b10 : Fld Z h10 b10 "com/example/ewig/ewig/LogRotation" "size" "I" (.int (0 : Int32)) := D10 (Or.inr (hw _ (List.mem_of_getElem? (i := 10) rfl))) (ty := .int) (by decide)
      have F_keep_b10 : Fld Z h10 b10 "com/example/ewig/ewig/LogRotation" "keep" "I" (.int (0 : Int32)) := D10 (Or.inr (hw _ (List.mem_of_getElem? (i := 12) rfl))) (ty := .int) (by decide)
      show own_Gl _ _ _ _ _ _ _ (T10.setTop (mkF m 42 #[.val (.int p1), .val (.int p2), .val (.int p3), .val (.int p4), .val (.int p5), .val (.ref b1), .val (.int bs), .val (.int bk), .unset, .unset, .unset, .unset, .unset, .unset, .unset] [(.ref b10)]))
      refine own_st (fun _ k => XS.dup X10.here hx rfl (hb hby at_42) rfl rfl k) ?_
      show own_Gl _ _ _ _ _ _ _ (T10.setTop (mkF m 43 #[.val (.int p1), .val (.int p2), .val (.int p3), .val (.int p4), .val (.int p5), .val (.ref b1), .val (.int bs), .val (.int bk), .unset, .unset, .unset, .unset, .unset, .unset, .unset] [(.ref b10), (.ref b10)]))
      refine own_st (fun _ k => XS.iload X10.here hx rfl (hb hby at_43) rfl k) ?_
      show own_Gl _ _ _ _ _ _ _ (T10.setTop (mkF m 45 #[.val (.int p1), .val (.int p2), .val (.int p3), .val (.int p4), .val (.int p5), .val (.ref b1), .val (.int bs), .val (.int bk), .unset, .unset, .unset, .unset, .unset, .unset, .unset] [(.int bs), (.ref b10), (.ref b10)]))
      refine own_st (fun _ k => XS.iload X10.here hx rfl (hb hby at_45) rfl k) ?_
      show own_Gl _ _ _ _ _ _ _ (T10.setTop (mkF m 47 #[.val (.int p1), .val (.int p2), .val (.int p3), .val (.int p4), .val (.int p5), .val (.ref b1), .val (.int bs), .val (.int bk), .unset, .unset, .unset, .unset, .unset, .unset, .unset] [(.int bk), (.int bs), (.ref b10), (.ref b10)]))
      have f14 := (f8.ext E10)
      obtain ⟨_, _, ⟨T13, L13, k13, n13⟩, -, X13, ⟨Lc13, hQ13, l13, y13, z13⟩, st13⟩ := X10.specialBack hx (y := (⟨"com/example/ewig/ewig/LogRotation", "<init>", "(II)V"⟩ : MethodName)) rfl hown (mvT hZ (hw _ (List.mem_of_getElem? (i := 3) rfl))) (mvT hZ (hw _ (List.mem_of_getElem? (i := 4) rfl))) (mvT hZ (hw _ (List.mem_of_getElem? (i := 5) rfl))) (by decide) (backOf (W := 1) (own_init l Z a0 hw [] b10 bs bk h10 n0 Zs11 A10 F_size_b10 F_keep_b10 g_b10) hZ (hw _ (List.mem_of_getElem? (i := 5) rfl)) (hw _ (List.mem_of_getElem? (i := 2) rfl)) (by decide) (by decide)) (g := (mkF m 47 #[.val (.int p1), .val (.int p2), .val (.int p3), .val (.int p4), .val (.int p5), .val (.ref b1), .val (.int bs), .val (.int bk), .unset, .unset, .unset, .unset, .unset, .unset, .unset] [(.int bk), (.int bs), (.ref b10), (.ref b10)])) rfl (by rw [hml]; rfl) (Steps.refl _) (a := b10) (argsL := [(.int bs), (.int bk)]) (rest := [(.ref b10)]) (lenOf own_pd945365693 rfl) rfl (by show 2 * 0 + _ ≤ _; exact Nat.le_of_eq rfl) (hb hby at_47) (fun _ _ => ⟨rfl, e10, (by decide : 2 + 0 ≤ room_1.cells), (by decide : 4 + 0 ≤ room_1.slots)⟩)
      dsimp only [Pt.U, Pt.locs, Pt.cells, Pt.slots] at X13 l13 y13 z13 st13 hQ13
      subst l13 y13 z13
      obtain ⟨hh13, eh013⟩ : ∃ z, T13.heap = z := ⟨_, rfl⟩
      rw [eh013] at hQ13
      obtain ⟨rfl, Nq13, Kq13, P13_0, P13_1⟩ := hQ13
      have N13 := Fr.app N7 Nq13
      refine own_tr st13 ?_
      have Zs15 : n0 ≤ hh13.size := Nat.le_trans Zs11 Kq13.1
      show own_Gl _ _ _ _ _ _ _ (T13.setTop (mkF m 50 #[.val (.int p1), .val (.int p2), .val (.int p3), .val (.int p4), .val (.int p5), .val (.ref b1), .val (.int bs), .val (.int bk), .unset, .unset, .unset, .unset, .unset, .unset, .unset] [(.ref b10)]))
      refine own_st (fun _ k => XS.astore X13.here hx rfl (hb hby at_50) rfl rfl (l' := #[.val (.int p1), .val (.int p2), .val (.int p3), .val (.int p4), .val (.int p5), .val (.ref b1), .val (.int bs), .val (.int bk), .val (.ref b10), .unset, .unset, .unset, .unset, .unset, .unset]) rfl k) ?_
      show own_Gl _ _ _ _ _ _ _ (T13.setTop (mkF m 52 #[.val (.int p1), .val (.int p2), .val (.int p3), .val (.int p4), .val (.int p5), .val (.ref b1), .val (.int bs), .val (.int bk), .val (.ref b10), .unset, .unset, .unset, .unset, .unset, .unset] []))
      refine own_st (fun _ k => XS.iload X13.here hx rfl (hb hby at_52) rfl k) ?_
      show own_Gl _ _ _ _ _ _ _ (T13.setTop (mkF m 54 #[.val (.int p1), .val (.int p2), .val (.int p3), .val (.int p4), .val (.int p5), .val (.ref b1), .val (.int bs), .val (.int bk), .val (.ref b10), .unset, .unset, .unset, .unset, .unset, .unset] [(.int p5)]))
      refine own_st (fun _ k => XS.iconst X13.here hx rfl (hb hby at_54) k) ?_
      show own_Gl _ _ _ _ _ _ _ (T13.setTop (mkF m 55 #[.val (.int p1), .val (.int p2), .val (.int p3), .val (.int p4), .val (.int p5), .val (.ref b1), .val (.int bs), .val (.int bk), .val (.ref b10), .unset, .unset, .unset, .unset, .unset, .unset] [(.int (2 : Int32)), (.int p5)]))
      refine own_st (fun _ k => XS.iushr X13.here hx rfl (hb hby at_55) rfl k) ?_
      show own_Gl _ _ _ _ _ _ _ (T13.setTop (mkF m 56 #[.val (.int p1), .val (.int p2), .val (.int p3), .val (.int p4), .val (.int p5), .val (.ref b1), .val (.int bs), .val (.int bk), .val (.ref b10), .unset, .unset, .unset, .unset, .unset, .unset] [(.int ((p5.toUInt32 >>> ((2 : Int32) &&& 31).toUInt32).toInt32))]))
      refine own_st (fun _ k => XS.iconst X13.here hx rfl (hb hby at_56) k) ?_
      show own_Gl _ _ _ _ _ _ _ (T13.setTop (mkF m 57 #[.val (.int p1), .val (.int p2), .val (.int p3), .val (.int p4), .val (.int p5), .val (.ref b1), .val (.int bs), .val (.int bk), .val (.ref b10), .unset, .unset, .unset, .unset, .unset, .unset] [(.int (3 : Int32)), (.int ((p5.toUInt32 >>> ((2 : Int32) &&& 31).toUInt32).toInt32))]))
      refine own_st (fun _ k => XS.iand X13.here hx rfl (hb hby at_57) rfl k) ?_
      show own_Gl _ _ _ _ _ _ _ (T13.setTop (mkF m 58 #[.val (.int p1), .val (.int p2), .val (.int p3), .val (.int p4), .val (.int p5), .val (.ref b1), .val (.int bs), .val (.int bk), .val (.ref b10), .unset, .unset, .unset, .unset, .unset, .unset] [(.int (((p5.toUInt32 >>> ((2 : Int32) &&& 31).toUInt32).toInt32) &&& (3 : Int32)))]))
      refine own_st (fun _ k => XS.istore X13.here hx rfl (hb hby at_58) rfl (l' := #[.val (.int p1), .val (.int p2), .val (.int p3), .val (.int p4), .val (.int p5), .val (.ref b1), .val (.int bs), .val (.int bk), .val (.ref b10), .val (.int (((p5.toUInt32 >>> ((2 : Int32) &&& 31).toUInt32).toInt32) &&& (3 : Int32))), .unset, .unset, .unset, .unset, .unset]) rfl k) ?_
      show own_Gl _ _ _ _ _ _ _ (T13.setTop (mkF m 60 #[.val (.int p1), .val (.int p2), .val (.int p3), .val (.int p4), .val (.int p5), .val (.ref b1), .val (.int bs), .val (.int bk), .val (.ref b10), .val (.int (((p5.toUInt32 >>> ((2 : Int32) &&& 31).toUInt32).toInt32) &&& (3 : Int32))), .unset, .unset, .unset, .unset, .unset] []))
      obtain ⟨kd, hkd⟩ : ∃ q, q = (((p5.toUInt32 >>> ((2 : Int32) &&& 31).toUInt32).toInt32) &&& (3 : Int32)) := ⟨_, rfl⟩
      rw [← hkd]
      have hkr : 0 ≤ kd.toInt ∧ kd.toInt ≤ 3 := by rw [hkd]; exact own_m3 _
      show own_Gl _ _ _ _ _ _ _ (T13.setTop (mkF m 60 #[.val (.int p1), .val (.int p2), .val (.int p3), .val (.int p4), .val (.int p5), .val (.ref b1), .val (.int bs), .val (.int bk), .val (.ref b10), .val (.int kd), .unset, .unset, .unset, .unset, .unset] []))
      refine own_st (fun _ k => XS.iload X13.here hx rfl (hb hby at_60) rfl k) ?_
      show own_Gl _ _ _ _ _ _ _ (T13.setTop (mkF m 62 #[.val (.int p1), .val (.int p2), .val (.int p3), .val (.int p4), .val (.int p5), .val (.ref b1), .val (.int bs), .val (.int bk), .val (.ref b10), .val (.int kd), .unset, .unset, .unset, .unset, .unset] [(.int kd)]))
      by_cases hc62 : kd = (0 : Int32)
      · refine own_st (fun _ k => XS.ifNo X13.here hx rfl (hb hby at_62) rfl ((if0 _ _).trans (teq hc62).2) k) ?_
        show own_Gl _ _ _ _ _ _ _ (T13.setTop (mkF m 65 #[.val (.int p1), .val (.int p2), .val (.int p3), .val (.int p4), .val (.int p5), .val (.ref b1), .val (.int bs), .val (.int bk), .val (.ref b10), .val (.int kd), .unset, .unset, .unset, .unset, .unset] []))
        refine own_st (fun _ k => XS.aconstNull X13.here hx rfl (hb hby at_65) k) ?_
        show own_Gl _ _ _ _ _ _ _ (T13.setTop (mkF m 66 #[.val (.int p1), .val (.int p2), .val (.int p3), .val (.int p4), .val (.int p5), .val (.ref b1), .val (.int bs), .val (.int bk), .val (.ref b10), .val (.int kd), .unset, .unset, .unset, .unset, .unset] [.null]))
        refine own_st (fun _ k => XS.astore X13.here hx rfl (hb hby at_66) rfl rfl (l' := #[.val (.int p1), .val (.int p2), .val (.int p3), .val (.int p4), .val (.int p5), .val (.ref b1), .val (.int bs), .val (.int bk), .val (.ref b10), .val (.int kd), .val .null, .unset, .unset, .unset, .unset]) rfl k) ?_
        show own_Gl _ _ _ _ _ _ _ (T13.setTop (mkF m 68 #[.val (.int p1), .val (.int p2), .val (.int p3), .val (.int p4), .val (.int p5), .val (.ref b1), .val (.int bs), .val (.int bk), .val (.ref b10), .val (.int kd), .val .null, .unset, .unset, .unset, .unset] []))
        refine own_st (fun _ k => XS.goto X13.here hx rfl (pc0 := 68) (pc' := 91) rfl (hb hby at_68) (by decide) (by decide) k) ?_
        show own_Gl _ _ _ _ _ _ _ (T13.setTop (mkF m 91 #[.val (.int p1), .val (.int p2), .val (.int p3), .val (.int p4), .val (.int p5), .val (.ref b1), .val (.int bs), .val (.int bk), .val (.ref b10), .val (.int kd), .val .null, .unset, .unset, .unset, .unset] []))
        refine own_st (fun _ k => XS.iload X13.here hx rfl (hb hby at_91) rfl k) ?_
        show own_Gl _ _ _ _ _ _ _ (T13.setTop (mkF m 93 #[.val (.int p1), .val (.int p2), .val (.int p3), .val (.int p4), .val (.int p5), .val (.ref b1), .val (.int bs), .val (.int bk), .val (.ref b10), .val (.int kd), .val .null, .unset, .unset, .unset, .unset] [(.int bs)]))
        refine own_st (fun _ k => XS.iloadN X13.here hx rfl (hb hby at_93) rfl k) ?_
        show own_Gl _ _ _ _ _ _ _ (T13.setTop (mkF m 94 #[.val (.int p1), .val (.int p2), .val (.int p3), .val (.int p4), .val (.int p5), .val (.ref b1), .val (.int bs), .val (.int bk), .val (.ref b10), .val (.int kd), .val .null, .unset, .unset, .unset, .unset] [(.int p1), (.int bs)]))
        by_cases hc94 : bs = p1
        · refine own_st (fun _ k => XS.icmpNo X13.here hx rfl (hb hby at_94) rfl (teq hc94).2 k) ?_
          show own_Gl _ _ _ _ _ _ _ (T13.setTop (mkF m 97 #[.val (.int p1), .val (.int p2), .val (.int p3), .val (.int p4), .val (.int p5), .val (.ref b1), .val (.int bs), .val (.int bk), .val (.ref b10), .val (.int kd), .val .null, .unset, .unset, .unset, .unset] []))
          refine own_st (fun _ k => XS.iload X13.here hx rfl (hb hby at_97) rfl k) ?_
          show own_Gl _ _ _ _ _ _ _ (T13.setTop (mkF m 99 #[.val (.int p1), .val (.int p2), .val (.int p3), .val (.int p4), .val (.int p5), .val (.ref b1), .val (.int bs), .val (.int bk), .val (.ref b10), .val (.int kd), .val .null, .unset, .unset, .unset, .unset] [(.int bk)]))
          refine own_st (fun _ k => XS.iloadN X13.here hx rfl (hb hby at_99) rfl k) ?_
          show own_Gl _ _ _ _ _ _ _ (T13.setTop (mkF m 100 #[.val (.int p1), .val (.int p2), .val (.int p3), .val (.int p4), .val (.int p5), .val (.ref b1), .val (.int bs), .val (.int bk), .val (.ref b10), .val (.int kd), .val .null, .unset, .unset, .unset, .unset] [(.int p2), (.int bk)]))
          by_cases hc100 : bk = p2
          · refine own_st (fun _ k => XS.icmpNo X13.here hx rfl (hb hby at_100) rfl (teq hc100).2 k) ?_
            show own_Gl _ _ _ _ _ _ _ (T13.setTop (mkF m 103 #[.val (.int p1), .val (.int p2), .val (.int p3), .val (.int p4), .val (.int p5), .val (.ref b1), .val (.int bs), .val (.int bk), .val (.ref b10), .val (.int kd), .val .null, .unset, .unset, .unset, .unset] []))
            refine own_st (fun _ k => XS.iconst X13.here hx rfl (hb hby at_103) k) ?_
            show own_Gl _ _ _ _ _ _ _ (T13.setTop (mkF m 104 #[.val (.int p1), .val (.int p2), .val (.int p3), .val (.int p4), .val (.int p5), .val (.ref b1), .val (.int bs), .val (.int bk), .val (.ref b10), .val (.int kd), .val .null, .unset, .unset, .unset, .unset] [(.int (1 : Int32))]))
            refine own_st (fun _ k => XS.goto X13.here hx rfl (pc0 := 104) (pc' := 108) rfl (hb hby at_104) (by decide) (by decide) k) ?_
            show own_Gl _ _ _ _ _ _ _ (T13.setTop (mkF m 108 #[.val (.int p1), .val (.int p2), .val (.int p3), .val (.int p4), .val (.int p5), .val (.ref b1), .val (.int bs), .val (.int bk), .val (.ref b10), .val (.int kd), .val .null, .unset, .unset, .unset, .unset] [(.int (1 : Int32))]))
            refine own_st (fun _ k => XS.istore X13.here hx rfl (hb hby at_108) rfl (l' := #[.val (.int p1), .val (.int p2), .val (.int p3), .val (.int p4), .val (.int p5), .val (.ref b1), .val (.int bs), .val (.int bk), .val (.ref b10), .val (.int kd), .val .null, .val (.int (1 : Int32)), .unset, .unset, .unset]) rfl k) ?_
            show own_Gl _ _ _ _ _ _ _ (T13.setTop (mkF m 110 #[.val (.int p1), .val (.int p2), .val (.int p3), .val (.int p4), .val (.int p5), .val (.ref b1), .val (.int bs), .val (.int bk), .val (.ref b10), .val (.int kd), .val .null, .val (.int (1 : Int32)), .unset, .unset, .unset] []))
            refine own_st (fun _ k => XS.iload X13.here hx rfl (hb hby at_110) rfl k) ?_
            show own_Gl _ _ _ _ _ _ _ (T13.setTop (mkF m 112 #[.val (.int p1), .val (.int p2), .val (.int p3), .val (.int p4), .val (.int p5), .val (.ref b1), .val (.int bs), .val (.int bk), .val (.ref b10), .val (.int kd), .val .null, .val (.int (1 : Int32)), .unset, .unset, .unset] [(.int kd)]))
            refine own_st (fun _ k => XS.iconst X13.here hx rfl (hb hby at_112) k) ?_
            show own_Gl _ _ _ _ _ _ _ (T13.setTop (mkF m 113 #[.val (.int p1), .val (.int p2), .val (.int p3), .val (.int p4), .val (.int p5), .val (.ref b1), .val (.int bs), .val (.int bk), .val (.ref b10), .val (.int kd), .val .null, .val (.int (1 : Int32)), .unset, .unset, .unset] [(.int (2 : Int32)), (.int kd)]))
            have hd16 : kd < (2 : Int32) := (by rw [hc62]; decide)
            refine own_st (fun _ k => XS.icmpYes X13.here hx rfl (pc0 := 113) (pc' := 125) rfl (hb hby at_113) rfl (tlt hd16).1 (by decide) (by decide) k) ?_
            show own_Gl _ _ _ _ _ _ _ (T13.setTop (mkF m 125 #[.val (.int p1), .val (.int p2), .val (.int p3), .val (.int p4), .val (.int p5), .val (.ref b1), .val (.int bs), .val (.int bk), .val (.ref b10), .val (.int kd), .val .null, .val (.int (1 : Int32)), .unset, .unset, .unset] []))
            refine own_st (fun _ k => XS.iconst X13.here hx rfl (hb hby at_125) k) ?_
            show own_Gl _ _ _ _ _ _ _ (T13.setTop (mkF m 126 #[.val (.int p1), .val (.int p2), .val (.int p3), .val (.int p4), .val (.int p5), .val (.ref b1), .val (.int bs), .val (.int bk), .val (.ref b10), .val (.int kd), .val .null, .val (.int (1 : Int32)), .unset, .unset, .unset] [(.int (0 : Int32))]))
            refine own_st (fun _ k => XS.istore X13.here hx rfl (hb hby at_126) rfl (l' := #[.val (.int p1), .val (.int p2), .val (.int p3), .val (.int p4), .val (.int p5), .val (.ref b1), .val (.int bs), .val (.int bk), .val (.ref b10), .val (.int kd), .val .null, .val (.int (1 : Int32)), .val (.int (0 : Int32)), .unset, .unset]) rfl k) ?_
            show own_Gl _ _ _ _ _ _ _ (T13.setTop (mkF m 128 #[.val (.int p1), .val (.int p2), .val (.int p3), .val (.int p4), .val (.int p5), .val (.ref b1), .val (.int bs), .val (.int bk), .val (.ref b10), .val (.int kd), .val .null, .val (.int (1 : Int32)), .val (.int (0 : Int32)), .unset, .unset] []))
            refine own_st (fun _ k => XS.aload X13.here hx rfl (hb hby at_128) rfl rfl k) ?_
            show own_Gl _ _ _ _ _ _ _ (T13.setTop (mkF m 130 #[.val (.int p1), .val (.int p2), .val (.int p3), .val (.int p4), .val (.int p5), .val (.ref b1), .val (.int bs), .val (.int bk), .val (.ref b10), .val (.int kd), .val .null, .val (.int (1 : Int32)), .val (.int (0 : Int32)), .unset, .unset] [(.ref b1)]))
            refine own_st (fun _ k => XS.aload X13.here hx rfl (hb hby at_130) rfl rfl k) ?_
            show own_Gl _ _ _ _ _ _ _ (T13.setTop (mkF m 132 #[.val (.int p1), .val (.int p2), .val (.int p3), .val (.int p4), .val (.int p5), .val (.ref b1), .val (.int bs), .val (.int bk), .val (.ref b10), .val (.int kd), .val .null, .val (.int (1 : Int32)), .val (.int (0 : Int32)), .unset, .unset] [.null, (.ref b1)]))
            have f18 := (f14.keep Kq13)
            have f19 := (A10.keep Kq13)
            obtain ⟨cq17, kq17, q17a, q17b, q17c⟩ := isOf hZ eh013 f18
            obtain ⟨_, _, ⟨T17, L17, k17, n17⟩, -, X17, ⟨Lc17, hQ17, l17, y17, z17⟩, st17⟩ := X13.virtualBack hx (y := (⟨"com/example/ewig/ewig/LogRotation", "equals", "(Ljava/lang/Object;)Z"⟩ : MethodName)) (z := (⟨"com/example/ewig/ewig/LogRotation", "equals", "(Ljava/lang/Object;)Z"⟩ : MethodName)) hown (mvT hZ (hw _ (List.mem_of_getElem? (i := 13) rfl))) (mvT hZ (hw _ (List.mem_of_getElem? (i := 14) rfl))) (notFace_of_selects (args := #[]) (mvT hZ (hw _ (List.mem_of_getElem? (i := 16) rfl)))) (mvT hZ (hw _ (List.mem_of_getElem? (i := 16) rfl))) (mvT hZ (hw _ (List.mem_of_getElem? (i := 15) rfl))) (by decide) (backOf (W := 0) (own_eq_null l Z a0 hw [] b1 hh13 n0 Zs15 ) hZ (hw _ (List.mem_of_getElem? (i := 17) rfl)) (hw _ (List.mem_of_getElem? (i := 2) rfl)) (by decide) (by decide)) q17a q17c (g := (mkF m 132 #[.val (.int p1), .val (.int p2), .val (.int p3), .val (.int p4), .val (.int p5), .val (.ref b1), .val (.int bs), .val (.int bk), .val (.ref b10), .val (.int kd), .val .null, .val (.int (1 : Int32)), .val (.int (0 : Int32)), .unset, .unset] [.null, (.ref b1)])) rfl (by rw [hml]; rfl) (Steps.refl _) (argsL := [.null]) (rest := []) (lenOf own_pd963338152 rfl) rfl (by show 2 * 0 + _ ≤ _; exact Nat.le_of_eq rfl) (hb hby at_132) (fun _ _ => ⟨rfl, eh013, (by decide : 2 + 0 ≤ room_1.cells), (by decide : 4 + 0 ≤ room_1.slots)⟩)
            dsimp only [Pt.U, Pt.locs, Pt.cells, Pt.slots] at X17 l17 y17 z17 st17 hQ17
            subst l17 y17 z17
            obtain ⟨hh17, eh017⟩ : ∃ z, T17.heap = z := ⟨_, rfl⟩
            rw [eh017] at hQ17
            obtain ⟨rfl, Nq17, eh17⟩ := hQ17
            have N17 := Fr.app N13 Nq17
            refine own_tr st17 ?_
            have e17 : T17.heap = hh13 := eh017.trans eh17
            show own_Gl _ _ _ _ _ _ _ (T17.setTop (mkF m 135 #[.val (.int p1), .val (.int p2), .val (.int p3), .val (.int p4), .val (.int p5), .val (.ref b1), .val (.int bs), .val (.int bk), .val (.ref b10), .val (.int kd), .val .null, .val (.int (1 : Int32)), .val (.int (0 : Int32)), .unset, .unset] [(.int (0 : Int32))]))
            refine own_st (fun _ k => XS.iload X17.here hx rfl (hb hby at_135) rfl k) ?_
            show own_Gl _ _ _ _ _ _ _ (T17.setTop (mkF m 137 #[.val (.int p1), .val (.int p2), .val (.int p3), .val (.int p4), .val (.int p5), .val (.ref b1), .val (.int bs), .val (.int bk), .val (.ref b10), .val (.int kd), .val .null, .val (.int (1 : Int32)), .val (.int (0 : Int32)), .unset, .unset] [(.int (0 : Int32)), (.int (0 : Int32))]))
            have hd20 : (0 : Int32) = (0 : Int32) := (by decide)
            refine own_st (fun _ k => XS.icmpNo X17.here hx rfl (hb hby at_137) rfl (teq hd20).2 k) ?_
            show own_Gl _ _ _ _ _ _ _ (T17.setTop (mkF m 140 #[.val (.int p1), .val (.int p2), .val (.int p3), .val (.int p4), .val (.int p5), .val (.ref b1), .val (.int bs), .val (.int bk), .val (.ref b10), .val (.int kd), .val .null, .val (.int (1 : Int32)), .val (.int (0 : Int32)), .unset, .unset] []))
            refine own_st (fun _ k => XS.iconst X17.here hx rfl (hb hby at_140) k) ?_
            show own_Gl _ _ _ _ _ _ _ (T17.setTop (mkF m 141 #[.val (.int p1), .val (.int p2), .val (.int p3), .val (.int p4), .val (.int p5), .val (.ref b1), .val (.int bs), .val (.int bk), .val (.ref b10), .val (.int kd), .val .null, .val (.int (1 : Int32)), .val (.int (0 : Int32)), .unset, .unset] [(.int (1 : Int32))]))
            refine own_st (fun _ k => XS.goto X17.here hx rfl (pc0 := 141) (pc' := 145) rfl (hb hby at_141) (by decide) (by decide) k) ?_
            show own_Gl _ _ _ _ _ _ _ (T17.setTop (mkF m 145 #[.val (.int p1), .val (.int p2), .val (.int p3), .val (.int p4), .val (.int p5), .val (.ref b1), .val (.int bs), .val (.int bk), .val (.ref b10), .val (.int kd), .val .null, .val (.int (1 : Int32)), .val (.int (0 : Int32)), .unset, .unset] [(.int (1 : Int32))]))
            refine own_st (fun _ k => XS.istore X17.here hx rfl (hb hby at_145) rfl (l' := #[.val (.int p1), .val (.int p2), .val (.int p3), .val (.int p4), .val (.int p5), .val (.ref b1), .val (.int bs), .val (.int bk), .val (.ref b10), .val (.int kd), .val .null, .val (.int (1 : Int32)), .val (.int (0 : Int32)), .val (.int (1 : Int32)), .unset]) rfl k) ?_
            show own_Gl _ _ _ _ _ _ _ (T17.setTop (mkF m 147 #[.val (.int p1), .val (.int p2), .val (.int p3), .val (.int p4), .val (.int p5), .val (.ref b1), .val (.int bs), .val (.int bk), .val (.ref b10), .val (.int kd), .val .null, .val (.int (1 : Int32)), .val (.int (0 : Int32)), .val (.int (1 : Int32)), .unset] []))
            refine own_st (fun _ k => XS.aload X17.here hx rfl (hb hby at_147) rfl rfl k) ?_
            show own_Gl _ _ _ _ _ _ _ (T17.setTop (mkF m 149 #[.val (.int p1), .val (.int p2), .val (.int p3), .val (.int p4), .val (.int p5), .val (.ref b1), .val (.int bs), .val (.int bk), .val (.ref b10), .val (.int kd), .val .null, .val (.int (1 : Int32)), .val (.int (0 : Int32)), .val (.int (1 : Int32)), .unset] [(.ref b10)]))
            refine own_st (fun _ k => XS.aload X17.here hx rfl (hb hby at_149) rfl rfl k) ?_
            show own_Gl _ _ _ _ _ _ _ (T17.setTop (mkF m 151 #[.val (.int p1), .val (.int p2), .val (.int p3), .val (.int p4), .val (.int p5), .val (.ref b1), .val (.int bs), .val (.int bk), .val (.ref b10), .val (.int kd), .val .null, .val (.int (1 : Int32)), .val (.int (0 : Int32)), .val (.int (1 : Int32)), .unset] [(.ref b1), (.ref b10)]))
            have f22 := ((P4_0.ext E10).keep Kq13 (ninS ne_b1_b10 nin0))
            have f23 := ((P4_1.ext E10).keep Kq13 (ninS ne_b1_b10 nin0))
            obtain ⟨cq21, kq21, q21a, q21b, q21c⟩ := isOf hZ e17 f19
            obtain ⟨_, _, ⟨T21, L21, k21, n21⟩, -, X21, ⟨Lc21, hQ21, l21, y21, z21⟩, st21⟩ := X17.virtualBack hx (y := (⟨"com/example/ewig/ewig/LogRotation", "equals", "(Ljava/lang/Object;)Z"⟩ : MethodName)) (z := (⟨"com/example/ewig/ewig/LogRotation", "equals", "(Ljava/lang/Object;)Z"⟩ : MethodName)) hown (mvT hZ (hw _ (List.mem_of_getElem? (i := 13) rfl))) (mvT hZ (hw _ (List.mem_of_getElem? (i := 14) rfl))) (notFace_of_selects (args := #[]) (mvT hZ (hw _ (List.mem_of_getElem? (i := 16) rfl)))) (mvT hZ (hw _ (List.mem_of_getElem? (i := 16) rfl))) (mvT hZ (hw _ (List.mem_of_getElem? (i := 15) rfl))) (by decide) (backOf (W := 0) (own_eq_obj l Z a0 hw [] b10 b1 bs bk p1 p2 hh13 n0 Zs15 f18 P13_0 P13_1 f22 f23) hZ (hw _ (List.mem_of_getElem? (i := 17) rfl)) (hw _ (List.mem_of_getElem? (i := 2) rfl)) (by decide) (by decide)) q21a q21c (g := (mkF m 151 #[.val (.int p1), .val (.int p2), .val (.int p3), .val (.int p4), .val (.int p5), .val (.ref b1), .val (.int bs), .val (.int bk), .val (.ref b10), .val (.int kd), .val .null, .val (.int (1 : Int32)), .val (.int (0 : Int32)), .val (.int (1 : Int32)), .unset] [(.ref b1), (.ref b10)])) rfl (by rw [hml]; rfl) (Steps.refl _) (argsL := [(.ref b1)]) (rest := []) (lenOf own_pd963338152 rfl) rfl (by show 2 * 0 + _ ≤ _; exact Nat.le_of_eq rfl) (hb hby at_151) (fun _ _ => ⟨rfl, e17, (by decide : 2 + 0 ≤ room_1.cells), (by decide : 4 + 0 ≤ room_1.slots)⟩)
            dsimp only [Pt.U, Pt.locs, Pt.cells, Pt.slots] at X21 l21 y21 z21 st21 hQ21
            subst l21 y21 z21
            obtain ⟨hh21, eh021⟩ : ∃ z, T21.heap = z := ⟨_, rfl⟩
            rw [eh021] at hQ21
            obtain ⟨rfl, Nq21, eh21⟩ := hQ21
            have N21 := Fr.app N17 Nq21
            refine own_tr st21 ?_
            have e21 : T21.heap = hh13 := eh021.trans eh21
            show own_Gl _ _ _ _ _ _ _ (T21.setTop (mkF m 154 #[.val (.int p1), .val (.int p2), .val (.int p3), .val (.int p4), .val (.int p5), .val (.ref b1), .val (.int bs), .val (.int bk), .val (.ref b10), .val (.int kd), .val .null, .val (.int (1 : Int32)), .val (.int (0 : Int32)), .val (.int (1 : Int32)), .unset] [(.int (if bs = p1 then (if bk = p2 then (1 : Int32) else (0 : Int32)) else (0 : Int32)))]))
            refine own_st (fun _ k => XS.iload X21.here hx rfl (hb hby at_154) rfl k) ?_
            show own_Gl _ _ _ _ _ _ _ (T21.setTop (mkF m 156 #[.val (.int p1), .val (.int p2), .val (.int p3), .val (.int p4), .val (.int p5), .val (.ref b1), .val (.int bs), .val (.int bk), .val (.ref b10), .val (.int kd), .val .null, .val (.int (1 : Int32)), .val (.int (0 : Int32)), .val (.int (1 : Int32)), .unset] [(.int (1 : Int32)), (.int (if bs = p1 then (if bk = p2 then (1 : Int32) else (0 : Int32)) else (0 : Int32)))]))
            have hd24 : (if bs = p1 then (if bk = p2 then (1 : Int32) else (0 : Int32)) else (0 : Int32)) = (1 : Int32) := (by rw [if_pos hc94, if_pos hc100])
            refine own_st (fun _ k => XS.icmpNo X21.here hx rfl (hb hby at_156) rfl (teq hd24).2 k) ?_
            show own_Gl _ _ _ _ _ _ _ (T21.setTop (mkF m 159 #[.val (.int p1), .val (.int p2), .val (.int p3), .val (.int p4), .val (.int p5), .val (.ref b1), .val (.int bs), .val (.int bk), .val (.ref b10), .val (.int kd), .val .null, .val (.int (1 : Int32)), .val (.int (0 : Int32)), .val (.int (1 : Int32)), .unset] []))
            refine own_st (fun _ k => XS.iconst X21.here hx rfl (hb hby at_159) k) ?_
            show own_Gl _ _ _ _ _ _ _ (T21.setTop (mkF m 160 #[.val (.int p1), .val (.int p2), .val (.int p3), .val (.int p4), .val (.int p5), .val (.ref b1), .val (.int bs), .val (.int bk), .val (.ref b10), .val (.int kd), .val .null, .val (.int (1 : Int32)), .val (.int (0 : Int32)), .val (.int (1 : Int32)), .unset] [(.int (1 : Int32))]))
            refine own_st (fun _ k => XS.goto X21.here hx rfl (pc0 := 160) (pc' := 164) rfl (hb hby at_160) (by decide) (by decide) k) ?_
            show own_Gl _ _ _ _ _ _ _ (T21.setTop (mkF m 164 #[.val (.int p1), .val (.int p2), .val (.int p3), .val (.int p4), .val (.int p5), .val (.ref b1), .val (.int bs), .val (.int bk), .val (.ref b10), .val (.int kd), .val .null, .val (.int (1 : Int32)), .val (.int (0 : Int32)), .val (.int (1 : Int32)), .unset] [(.int (1 : Int32))]))
            refine own_st (fun _ k => XS.istore X21.here hx rfl (hb hby at_164) rfl (l' := #[.val (.int p1), .val (.int p2), .val (.int p3), .val (.int p4), .val (.int p5), .val (.ref b1), .val (.int bs), .val (.int bk), .val (.ref b10), .val (.int kd), .val .null, .val (.int (1 : Int32)), .val (.int (0 : Int32)), .val (.int (1 : Int32)), .val (.int (1 : Int32))]) rfl k) ?_
            show own_Gl _ _ _ _ _ _ _ (T21.setTop (mkF m 166 #[.val (.int p1), .val (.int p2), .val (.int p3), .val (.int p4), .val (.int p5), .val (.ref b1), .val (.int bs), .val (.int bk), .val (.ref b10), .val (.int kd), .val .null, .val (.int (1 : Int32)), .val (.int (0 : Int32)), .val (.int (1 : Int32)), .val (.int (1 : Int32))] []))
            refine own_st (fun _ k => XS.iload X21.here hx rfl (hb hby at_166) rfl k) ?_
            show own_Gl _ _ _ _ _ _ _ (T21.setTop (mkF m 168 #[.val (.int p1), .val (.int p2), .val (.int p3), .val (.int p4), .val (.int p5), .val (.ref b1), .val (.int bs), .val (.int bk), .val (.ref b10), .val (.int kd), .val .null, .val (.int (1 : Int32)), .val (.int (0 : Int32)), .val (.int (1 : Int32)), .val (.int (1 : Int32))] [(.int (1 : Int32))]))
            have hd25 : ¬ ((1 : Int32) = (0 : Int32)) := (by decide)
            refine own_st (fun _ k => XS.ifNo X21.here hx rfl (hb hby at_168) rfl ((if0 _ _).trans (feq hd25).1) k) ?_
            show own_Gl _ _ _ _ _ _ _ (T21.setTop (mkF m 171 #[.val (.int p1), .val (.int p2), .val (.int p3), .val (.int p4), .val (.int p5), .val (.ref b1), .val (.int bs), .val (.int bk), .val (.ref b10), .val (.int kd), .val .null, .val (.int (1 : Int32)), .val (.int (0 : Int32)), .val (.int (1 : Int32)), .val (.int (1 : Int32))] []))
            refine own_st (fun _ k => XS.iload X21.here hx rfl (hb hby at_171) rfl k) ?_
            show own_Gl _ _ _ _ _ _ _ (T21.setTop (mkF m 173 #[.val (.int p1), .val (.int p2), .val (.int p3), .val (.int p4), .val (.int p5), .val (.ref b1), .val (.int bs), .val (.int bk), .val (.ref b10), .val (.int kd), .val .null, .val (.int (1 : Int32)), .val (.int (0 : Int32)), .val (.int (1 : Int32)), .val (.int (1 : Int32))] [(.int (1 : Int32))]))
            have hd26 : ¬ ((1 : Int32) = (0 : Int32)) := (by decide)
            refine own_st (fun _ k => XS.ifNo X21.here hx rfl (hb hby at_173) rfl ((if0 _ _).trans (feq hd26).1) k) ?_
            show own_Gl _ _ _ _ _ _ _ (T21.setTop (mkF m 176 #[.val (.int p1), .val (.int p2), .val (.int p3), .val (.int p4), .val (.int p5), .val (.ref b1), .val (.int bs), .val (.int bk), .val (.ref b10), .val (.int kd), .val .null, .val (.int (1 : Int32)), .val (.int (0 : Int32)), .val (.int (1 : Int32)), .val (.int (1 : Int32))] []))
            refine own_st (fun _ k => XS.iconst X21.here hx rfl (hb hby at_176) k) ?_
            show own_Gl _ _ _ _ _ _ _ (T21.setTop (mkF m 177 #[.val (.int p1), .val (.int p2), .val (.int p3), .val (.int p4), .val (.int p5), .val (.ref b1), .val (.int bs), .val (.int bk), .val (.ref b10), .val (.int kd), .val .null, .val (.int (1 : Int32)), .val (.int (0 : Int32)), .val (.int (1 : Int32)), .val (.int (1 : Int32))] [(.int (1 : Int32))]))
            refine own_st (fun _ k => XS.goto X21.here hx rfl (pc0 := 177) (pc' := 181) rfl (hb hby at_177) (by decide) (by decide) k) ?_
            show own_Gl _ _ _ _ _ _ _ (T21.setTop (mkF m 181 #[.val (.int p1), .val (.int p2), .val (.int p3), .val (.int p4), .val (.int p5), .val (.ref b1), .val (.int bs), .val (.int bk), .val (.ref b10), .val (.int kd), .val .null, .val (.int (1 : Int32)), .val (.int (0 : Int32)), .val (.int (1 : Int32)), .val (.int (1 : Int32))] [(.int (1 : Int32))]))
            exact own_retN X21 hx hlk (t := .boolean) hret (by simp) (hb hby at_181) e21 ⟨rfl, N21⟩ (by decide) (by decide)
          · refine own_st (fun _ k => XS.icmpYes X13.here hx rfl (pc0 := 100) (pc' := 107) rfl (hb hby at_100) rfl (feq hc100).2 (by decide) (by decide) k) ?_
            show own_Gl _ _ _ _ _ _ _ (T13.setTop (mkF m 107 #[.val (.int p1), .val (.int p2), .val (.int p3), .val (.int p4), .val (.int p5), .val (.ref b1), .val (.int bs), .val (.int bk), .val (.ref b10), .val (.int kd), .val .null, .unset, .unset, .unset, .unset] []))
            refine own_st (fun _ k => XS.iconst X13.here hx rfl (hb hby at_107) k) ?_
            show own_Gl _ _ _ _ _ _ _ (T13.setTop (mkF m 108 #[.val (.int p1), .val (.int p2), .val (.int p3), .val (.int p4), .val (.int p5), .val (.ref b1), .val (.int bs), .val (.int bk), .val (.ref b10), .val (.int kd), .val .null, .unset, .unset, .unset, .unset] [(.int (0 : Int32))]))
            refine own_st (fun _ k => XS.istore X13.here hx rfl (hb hby at_108) rfl (l' := #[.val (.int p1), .val (.int p2), .val (.int p3), .val (.int p4), .val (.int p5), .val (.ref b1), .val (.int bs), .val (.int bk), .val (.ref b10), .val (.int kd), .val .null, .val (.int (0 : Int32)), .unset, .unset, .unset]) rfl k) ?_
            show own_Gl _ _ _ _ _ _ _ (T13.setTop (mkF m 110 #[.val (.int p1), .val (.int p2), .val (.int p3), .val (.int p4), .val (.int p5), .val (.ref b1), .val (.int bs), .val (.int bk), .val (.ref b10), .val (.int kd), .val .null, .val (.int (0 : Int32)), .unset, .unset, .unset] []))
            refine own_st (fun _ k => XS.iload X13.here hx rfl (hb hby at_110) rfl k) ?_
            show own_Gl _ _ _ _ _ _ _ (T13.setTop (mkF m 112 #[.val (.int p1), .val (.int p2), .val (.int p3), .val (.int p4), .val (.int p5), .val (.ref b1), .val (.int bs), .val (.int bk), .val (.ref b10), .val (.int kd), .val .null, .val (.int (0 : Int32)), .unset, .unset, .unset] [(.int kd)]))
            refine own_st (fun _ k => XS.iconst X13.here hx rfl (hb hby at_112) k) ?_
            show own_Gl _ _ _ _ _ _ _ (T13.setTop (mkF m 113 #[.val (.int p1), .val (.int p2), .val (.int p3), .val (.int p4), .val (.int p5), .val (.ref b1), .val (.int bs), .val (.int bk), .val (.ref b10), .val (.int kd), .val .null, .val (.int (0 : Int32)), .unset, .unset, .unset] [(.int (2 : Int32)), (.int kd)]))
            have hd27 : kd < (2 : Int32) := (by rw [hc62]; decide)
            refine own_st (fun _ k => XS.icmpYes X13.here hx rfl (pc0 := 113) (pc' := 125) rfl (hb hby at_113) rfl (tlt hd27).1 (by decide) (by decide) k) ?_
            show own_Gl _ _ _ _ _ _ _ (T13.setTop (mkF m 125 #[.val (.int p1), .val (.int p2), .val (.int p3), .val (.int p4), .val (.int p5), .val (.ref b1), .val (.int bs), .val (.int bk), .val (.ref b10), .val (.int kd), .val .null, .val (.int (0 : Int32)), .unset, .unset, .unset] []))
            refine own_st (fun _ k => XS.iconst X13.here hx rfl (hb hby at_125) k) ?_
            show own_Gl _ _ _ _ _ _ _ (T13.setTop (mkF m 126 #[.val (.int p1), .val (.int p2), .val (.int p3), .val (.int p4), .val (.int p5), .val (.ref b1), .val (.int bs), .val (.int bk), .val (.ref b10), .val (.int kd), .val .null, .val (.int (0 : Int32)), .unset, .unset, .unset] [(.int (0 : Int32))]))
            refine own_st (fun _ k => XS.istore X13.here hx rfl (hb hby at_126) rfl (l' := #[.val (.int p1), .val (.int p2), .val (.int p3), .val (.int p4), .val (.int p5), .val (.ref b1), .val (.int bs), .val (.int bk), .val (.ref b10), .val (.int kd), .val .null, .val (.int (0 : Int32)), .val (.int (0 : Int32)), .unset, .unset]) rfl k) ?_
            show own_Gl _ _ _ _ _ _ _ (T13.setTop (mkF m 128 #[.val (.int p1), .val (.int p2), .val (.int p3), .val (.int p4), .val (.int p5), .val (.ref b1), .val (.int bs), .val (.int bk), .val (.ref b10), .val (.int kd), .val .null, .val (.int (0 : Int32)), .val (.int (0 : Int32)), .unset, .unset] []))
            refine own_st (fun _ k => XS.aload X13.here hx rfl (hb hby at_128) rfl rfl k) ?_
            show own_Gl _ _ _ _ _ _ _ (T13.setTop (mkF m 130 #[.val (.int p1), .val (.int p2), .val (.int p3), .val (.int p4), .val (.int p5), .val (.ref b1), .val (.int bs), .val (.int bk), .val (.ref b10), .val (.int kd), .val .null, .val (.int (0 : Int32)), .val (.int (0 : Int32)), .unset, .unset] [(.ref b1)]))
            refine own_st (fun _ k => XS.aload X13.here hx rfl (hb hby at_130) rfl rfl k) ?_
            show own_Gl _ _ _ _ _ _ _ (T13.setTop (mkF m 132 #[.val (.int p1), .val (.int p2), .val (.int p3), .val (.int p4), .val (.int p5), .val (.ref b1), .val (.int bs), .val (.int bk), .val (.ref b10), .val (.int kd), .val .null, .val (.int (0 : Int32)), .val (.int (0 : Int32)), .unset, .unset] [.null, (.ref b1)]))
            have f29 := (f14.keep Kq13)
            have f30 := (A10.keep Kq13)
            obtain ⟨cq28, kq28, q28a, q28b, q28c⟩ := isOf hZ eh013 f29
            obtain ⟨_, _, ⟨T28, L28, k28, n28⟩, -, X28, ⟨Lc28, hQ28, l28, y28, z28⟩, st28⟩ := X13.virtualBack hx (y := (⟨"com/example/ewig/ewig/LogRotation", "equals", "(Ljava/lang/Object;)Z"⟩ : MethodName)) (z := (⟨"com/example/ewig/ewig/LogRotation", "equals", "(Ljava/lang/Object;)Z"⟩ : MethodName)) hown (mvT hZ (hw _ (List.mem_of_getElem? (i := 13) rfl))) (mvT hZ (hw _ (List.mem_of_getElem? (i := 14) rfl))) (notFace_of_selects (args := #[]) (mvT hZ (hw _ (List.mem_of_getElem? (i := 16) rfl)))) (mvT hZ (hw _ (List.mem_of_getElem? (i := 16) rfl))) (mvT hZ (hw _ (List.mem_of_getElem? (i := 15) rfl))) (by decide) (backOf (W := 0) (own_eq_null l Z a0 hw [] b1 hh13 n0 Zs15 ) hZ (hw _ (List.mem_of_getElem? (i := 17) rfl)) (hw _ (List.mem_of_getElem? (i := 2) rfl)) (by decide) (by decide)) q28a q28c (g := (mkF m 132 #[.val (.int p1), .val (.int p2), .val (.int p3), .val (.int p4), .val (.int p5), .val (.ref b1), .val (.int bs), .val (.int bk), .val (.ref b10), .val (.int kd), .val .null, .val (.int (0 : Int32)), .val (.int (0 : Int32)), .unset, .unset] [.null, (.ref b1)])) rfl (by rw [hml]; rfl) (Steps.refl _) (argsL := [.null]) (rest := []) (lenOf own_pd963338152 rfl) rfl (by show 2 * 0 + _ ≤ _; exact Nat.le_of_eq rfl) (hb hby at_132) (fun _ _ => ⟨rfl, eh013, (by decide : 2 + 0 ≤ room_1.cells), (by decide : 4 + 0 ≤ room_1.slots)⟩)
            dsimp only [Pt.U, Pt.locs, Pt.cells, Pt.slots] at X28 l28 y28 z28 st28 hQ28
            subst l28 y28 z28
            obtain ⟨hh28, eh028⟩ : ∃ z, T28.heap = z := ⟨_, rfl⟩
            rw [eh028] at hQ28
            obtain ⟨rfl, Nq28, eh28⟩ := hQ28
            have N28 := Fr.app N13 Nq28
            refine own_tr st28 ?_
            have e28 : T28.heap = hh13 := eh028.trans eh28
            show own_Gl _ _ _ _ _ _ _ (T28.setTop (mkF m 135 #[.val (.int p1), .val (.int p2), .val (.int p3), .val (.int p4), .val (.int p5), .val (.ref b1), .val (.int bs), .val (.int bk), .val (.ref b10), .val (.int kd), .val .null, .val (.int (0 : Int32)), .val (.int (0 : Int32)), .unset, .unset] [(.int (0 : Int32))]))
            refine own_st (fun _ k => XS.iload X28.here hx rfl (hb hby at_135) rfl k) ?_
            show own_Gl _ _ _ _ _ _ _ (T28.setTop (mkF m 137 #[.val (.int p1), .val (.int p2), .val (.int p3), .val (.int p4), .val (.int p5), .val (.ref b1), .val (.int bs), .val (.int bk), .val (.ref b10), .val (.int kd), .val .null, .val (.int (0 : Int32)), .val (.int (0 : Int32)), .unset, .unset] [(.int (0 : Int32)), (.int (0 : Int32))]))
            have hd31 : (0 : Int32) = (0 : Int32) := (by decide)
            refine own_st (fun _ k => XS.icmpNo X28.here hx rfl (hb hby at_137) rfl (teq hd31).2 k) ?_
            show own_Gl _ _ _ _ _ _ _ (T28.setTop (mkF m 140 #[.val (.int p1), .val (.int p2), .val (.int p3), .val (.int p4), .val (.int p5), .val (.ref b1), .val (.int bs), .val (.int bk), .val (.ref b10), .val (.int kd), .val .null, .val (.int (0 : Int32)), .val (.int (0 : Int32)), .unset, .unset] []))
            refine own_st (fun _ k => XS.iconst X28.here hx rfl (hb hby at_140) k) ?_
            show own_Gl _ _ _ _ _ _ _ (T28.setTop (mkF m 141 #[.val (.int p1), .val (.int p2), .val (.int p3), .val (.int p4), .val (.int p5), .val (.ref b1), .val (.int bs), .val (.int bk), .val (.ref b10), .val (.int kd), .val .null, .val (.int (0 : Int32)), .val (.int (0 : Int32)), .unset, .unset] [(.int (1 : Int32))]))
            refine own_st (fun _ k => XS.goto X28.here hx rfl (pc0 := 141) (pc' := 145) rfl (hb hby at_141) (by decide) (by decide) k) ?_
            show own_Gl _ _ _ _ _ _ _ (T28.setTop (mkF m 145 #[.val (.int p1), .val (.int p2), .val (.int p3), .val (.int p4), .val (.int p5), .val (.ref b1), .val (.int bs), .val (.int bk), .val (.ref b10), .val (.int kd), .val .null, .val (.int (0 : Int32)), .val (.int (0 : Int32)), .unset, .unset] [(.int (1 : Int32))]))
            refine own_st (fun _ k => XS.istore X28.here hx rfl (hb hby at_145) rfl (l' := #[.val (.int p1), .val (.int p2), .val (.int p3), .val (.int p4), .val (.int p5), .val (.ref b1), .val (.int bs), .val (.int bk), .val (.ref b10), .val (.int kd), .val .null, .val (.int (0 : Int32)), .val (.int (0 : Int32)), .val (.int (1 : Int32)), .unset]) rfl k) ?_
            show own_Gl _ _ _ _ _ _ _ (T28.setTop (mkF m 147 #[.val (.int p1), .val (.int p2), .val (.int p3), .val (.int p4), .val (.int p5), .val (.ref b1), .val (.int bs), .val (.int bk), .val (.ref b10), .val (.int kd), .val .null, .val (.int (0 : Int32)), .val (.int (0 : Int32)), .val (.int (1 : Int32)), .unset] []))
            refine own_st (fun _ k => XS.aload X28.here hx rfl (hb hby at_147) rfl rfl k) ?_
            show own_Gl _ _ _ _ _ _ _ (T28.setTop (mkF m 149 #[.val (.int p1), .val (.int p2), .val (.int p3), .val (.int p4), .val (.int p5), .val (.ref b1), .val (.int bs), .val (.int bk), .val (.ref b10), .val (.int kd), .val .null, .val (.int (0 : Int32)), .val (.int (0 : Int32)), .val (.int (1 : Int32)), .unset] [(.ref b10)]))
            refine own_st (fun _ k => XS.aload X28.here hx rfl (hb hby at_149) rfl rfl k) ?_
            show own_Gl _ _ _ _ _ _ _ (T28.setTop (mkF m 151 #[.val (.int p1), .val (.int p2), .val (.int p3), .val (.int p4), .val (.int p5), .val (.ref b1), .val (.int bs), .val (.int bk), .val (.ref b10), .val (.int kd), .val .null, .val (.int (0 : Int32)), .val (.int (0 : Int32)), .val (.int (1 : Int32)), .unset] [(.ref b1), (.ref b10)]))
            have f33 := ((P4_0.ext E10).keep Kq13 (ninS ne_b1_b10 nin0))
            have f34 := ((P4_1.ext E10).keep Kq13 (ninS ne_b1_b10 nin0))
            obtain ⟨cq32, kq32, q32a, q32b, q32c⟩ := isOf hZ e28 f30
            obtain ⟨_, _, ⟨T32, L32, k32, n32⟩, -, X32, ⟨Lc32, hQ32, l32, y32, z32⟩, st32⟩ := X28.virtualBack hx (y := (⟨"com/example/ewig/ewig/LogRotation", "equals", "(Ljava/lang/Object;)Z"⟩ : MethodName)) (z := (⟨"com/example/ewig/ewig/LogRotation", "equals", "(Ljava/lang/Object;)Z"⟩ : MethodName)) hown (mvT hZ (hw _ (List.mem_of_getElem? (i := 13) rfl))) (mvT hZ (hw _ (List.mem_of_getElem? (i := 14) rfl))) (notFace_of_selects (args := #[]) (mvT hZ (hw _ (List.mem_of_getElem? (i := 16) rfl)))) (mvT hZ (hw _ (List.mem_of_getElem? (i := 16) rfl))) (mvT hZ (hw _ (List.mem_of_getElem? (i := 15) rfl))) (by decide) (backOf (W := 0) (own_eq_obj l Z a0 hw [] b10 b1 bs bk p1 p2 hh13 n0 Zs15 f29 P13_0 P13_1 f33 f34) hZ (hw _ (List.mem_of_getElem? (i := 17) rfl)) (hw _ (List.mem_of_getElem? (i := 2) rfl)) (by decide) (by decide)) q32a q32c (g := (mkF m 151 #[.val (.int p1), .val (.int p2), .val (.int p3), .val (.int p4), .val (.int p5), .val (.ref b1), .val (.int bs), .val (.int bk), .val (.ref b10), .val (.int kd), .val .null, .val (.int (0 : Int32)), .val (.int (0 : Int32)), .val (.int (1 : Int32)), .unset] [(.ref b1), (.ref b10)])) rfl (by rw [hml]; rfl) (Steps.refl _) (argsL := [(.ref b1)]) (rest := []) (lenOf own_pd963338152 rfl) rfl (by show 2 * 0 + _ ≤ _; exact Nat.le_of_eq rfl) (hb hby at_151) (fun _ _ => ⟨rfl, e28, (by decide : 2 + 0 ≤ room_1.cells), (by decide : 4 + 0 ≤ room_1.slots)⟩)
            dsimp only [Pt.U, Pt.locs, Pt.cells, Pt.slots] at X32 l32 y32 z32 st32 hQ32
            subst l32 y32 z32
            obtain ⟨hh32, eh032⟩ : ∃ z, T32.heap = z := ⟨_, rfl⟩
            rw [eh032] at hQ32
            obtain ⟨rfl, Nq32, eh32⟩ := hQ32
            have N32 := Fr.app N28 Nq32
            refine own_tr st32 ?_
            have e32 : T32.heap = hh13 := eh032.trans eh32
            show own_Gl _ _ _ _ _ _ _ (T32.setTop (mkF m 154 #[.val (.int p1), .val (.int p2), .val (.int p3), .val (.int p4), .val (.int p5), .val (.ref b1), .val (.int bs), .val (.int bk), .val (.ref b10), .val (.int kd), .val .null, .val (.int (0 : Int32)), .val (.int (0 : Int32)), .val (.int (1 : Int32)), .unset] [(.int (if bs = p1 then (if bk = p2 then (1 : Int32) else (0 : Int32)) else (0 : Int32)))]))
            refine own_st (fun _ k => XS.iload X32.here hx rfl (hb hby at_154) rfl k) ?_
            show own_Gl _ _ _ _ _ _ _ (T32.setTop (mkF m 156 #[.val (.int p1), .val (.int p2), .val (.int p3), .val (.int p4), .val (.int p5), .val (.ref b1), .val (.int bs), .val (.int bk), .val (.ref b10), .val (.int kd), .val .null, .val (.int (0 : Int32)), .val (.int (0 : Int32)), .val (.int (1 : Int32)), .unset] [(.int (0 : Int32)), (.int (if bs = p1 then (if bk = p2 then (1 : Int32) else (0 : Int32)) else (0 : Int32)))]))
            have hd35 : (if bs = p1 then (if bk = p2 then (1 : Int32) else (0 : Int32)) else (0 : Int32)) = (0 : Int32) := (by rw [if_pos hc94, if_neg hc100])
            refine own_st (fun _ k => XS.icmpNo X32.here hx rfl (hb hby at_156) rfl (teq hd35).2 k) ?_
            show own_Gl _ _ _ _ _ _ _ (T32.setTop (mkF m 159 #[.val (.int p1), .val (.int p2), .val (.int p3), .val (.int p4), .val (.int p5), .val (.ref b1), .val (.int bs), .val (.int bk), .val (.ref b10), .val (.int kd), .val .null, .val (.int (0 : Int32)), .val (.int (0 : Int32)), .val (.int (1 : Int32)), .unset] []))
            refine own_st (fun _ k => XS.iconst X32.here hx rfl (hb hby at_159) k) ?_
            show own_Gl _ _ _ _ _ _ _ (T32.setTop (mkF m 160 #[.val (.int p1), .val (.int p2), .val (.int p3), .val (.int p4), .val (.int p5), .val (.ref b1), .val (.int bs), .val (.int bk), .val (.ref b10), .val (.int kd), .val .null, .val (.int (0 : Int32)), .val (.int (0 : Int32)), .val (.int (1 : Int32)), .unset] [(.int (1 : Int32))]))
            refine own_st (fun _ k => XS.goto X32.here hx rfl (pc0 := 160) (pc' := 164) rfl (hb hby at_160) (by decide) (by decide) k) ?_
            show own_Gl _ _ _ _ _ _ _ (T32.setTop (mkF m 164 #[.val (.int p1), .val (.int p2), .val (.int p3), .val (.int p4), .val (.int p5), .val (.ref b1), .val (.int bs), .val (.int bk), .val (.ref b10), .val (.int kd), .val .null, .val (.int (0 : Int32)), .val (.int (0 : Int32)), .val (.int (1 : Int32)), .unset] [(.int (1 : Int32))]))
            refine own_st (fun _ k => XS.istore X32.here hx rfl (hb hby at_164) rfl (l' := #[.val (.int p1), .val (.int p2), .val (.int p3), .val (.int p4), .val (.int p5), .val (.ref b1), .val (.int bs), .val (.int bk), .val (.ref b10), .val (.int kd), .val .null, .val (.int (0 : Int32)), .val (.int (0 : Int32)), .val (.int (1 : Int32)), .val (.int (1 : Int32))]) rfl k) ?_
            show own_Gl _ _ _ _ _ _ _ (T32.setTop (mkF m 166 #[.val (.int p1), .val (.int p2), .val (.int p3), .val (.int p4), .val (.int p5), .val (.ref b1), .val (.int bs), .val (.int bk), .val (.ref b10), .val (.int kd), .val .null, .val (.int (0 : Int32)), .val (.int (0 : Int32)), .val (.int (1 : Int32)), .val (.int (1 : Int32))] []))
            refine own_st (fun _ k => XS.iload X32.here hx rfl (hb hby at_166) rfl k) ?_
            show own_Gl _ _ _ _ _ _ _ (T32.setTop (mkF m 168 #[.val (.int p1), .val (.int p2), .val (.int p3), .val (.int p4), .val (.int p5), .val (.ref b1), .val (.int bs), .val (.int bk), .val (.ref b10), .val (.int kd), .val .null, .val (.int (0 : Int32)), .val (.int (0 : Int32)), .val (.int (1 : Int32)), .val (.int (1 : Int32))] [(.int (1 : Int32))]))
            have hd36 : ¬ ((1 : Int32) = (0 : Int32)) := (by decide)
            refine own_st (fun _ k => XS.ifNo X32.here hx rfl (hb hby at_168) rfl ((if0 _ _).trans (feq hd36).1) k) ?_
            show own_Gl _ _ _ _ _ _ _ (T32.setTop (mkF m 171 #[.val (.int p1), .val (.int p2), .val (.int p3), .val (.int p4), .val (.int p5), .val (.ref b1), .val (.int bs), .val (.int bk), .val (.ref b10), .val (.int kd), .val .null, .val (.int (0 : Int32)), .val (.int (0 : Int32)), .val (.int (1 : Int32)), .val (.int (1 : Int32))] []))
            refine own_st (fun _ k => XS.iload X32.here hx rfl (hb hby at_171) rfl k) ?_
            show own_Gl _ _ _ _ _ _ _ (T32.setTop (mkF m 173 #[.val (.int p1), .val (.int p2), .val (.int p3), .val (.int p4), .val (.int p5), .val (.ref b1), .val (.int bs), .val (.int bk), .val (.ref b10), .val (.int kd), .val .null, .val (.int (0 : Int32)), .val (.int (0 : Int32)), .val (.int (1 : Int32)), .val (.int (1 : Int32))] [(.int (1 : Int32))]))
            have hd37 : ¬ ((1 : Int32) = (0 : Int32)) := (by decide)
            refine own_st (fun _ k => XS.ifNo X32.here hx rfl (hb hby at_173) rfl ((if0 _ _).trans (feq hd37).1) k) ?_
            show own_Gl _ _ _ _ _ _ _ (T32.setTop (mkF m 176 #[.val (.int p1), .val (.int p2), .val (.int p3), .val (.int p4), .val (.int p5), .val (.ref b1), .val (.int bs), .val (.int bk), .val (.ref b10), .val (.int kd), .val .null, .val (.int (0 : Int32)), .val (.int (0 : Int32)), .val (.int (1 : Int32)), .val (.int (1 : Int32))] []))
            refine own_st (fun _ k => XS.iconst X32.here hx rfl (hb hby at_176) k) ?_
            show own_Gl _ _ _ _ _ _ _ (T32.setTop (mkF m 177 #[.val (.int p1), .val (.int p2), .val (.int p3), .val (.int p4), .val (.int p5), .val (.ref b1), .val (.int bs), .val (.int bk), .val (.ref b10), .val (.int kd), .val .null, .val (.int (0 : Int32)), .val (.int (0 : Int32)), .val (.int (1 : Int32)), .val (.int (1 : Int32))] [(.int (1 : Int32))]))
            refine own_st (fun _ k => XS.goto X32.here hx rfl (pc0 := 177) (pc' := 181) rfl (hb hby at_177) (by decide) (by decide) k) ?_
            show own_Gl _ _ _ _ _ _ _ (T32.setTop (mkF m 181 #[.val (.int p1), .val (.int p2), .val (.int p3), .val (.int p4), .val (.int p5), .val (.ref b1), .val (.int bs), .val (.int bk), .val (.ref b10), .val (.int kd), .val .null, .val (.int (0 : Int32)), .val (.int (0 : Int32)), .val (.int (1 : Int32)), .val (.int (1 : Int32))] [(.int (1 : Int32))]))
            exact own_retN X32 hx hlk (t := .boolean) hret (by simp) (hb hby at_181) e32 ⟨rfl, N32⟩ (by decide) (by decide)
        · refine own_st (fun _ k => XS.icmpYes X13.here hx rfl (pc0 := 94) (pc' := 107) rfl (hb hby at_94) rfl (feq hc94).2 (by decide) (by decide) k) ?_
          show own_Gl _ _ _ _ _ _ _ (T13.setTop (mkF m 107 #[.val (.int p1), .val (.int p2), .val (.int p3), .val (.int p4), .val (.int p5), .val (.ref b1), .val (.int bs), .val (.int bk), .val (.ref b10), .val (.int kd), .val .null, .unset, .unset, .unset, .unset] []))
          refine own_st (fun _ k => XS.iconst X13.here hx rfl (hb hby at_107) k) ?_
          show own_Gl _ _ _ _ _ _ _ (T13.setTop (mkF m 108 #[.val (.int p1), .val (.int p2), .val (.int p3), .val (.int p4), .val (.int p5), .val (.ref b1), .val (.int bs), .val (.int bk), .val (.ref b10), .val (.int kd), .val .null, .unset, .unset, .unset, .unset] [(.int (0 : Int32))]))
          refine own_st (fun _ k => XS.istore X13.here hx rfl (hb hby at_108) rfl (l' := #[.val (.int p1), .val (.int p2), .val (.int p3), .val (.int p4), .val (.int p5), .val (.ref b1), .val (.int bs), .val (.int bk), .val (.ref b10), .val (.int kd), .val .null, .val (.int (0 : Int32)), .unset, .unset, .unset]) rfl k) ?_
          show own_Gl _ _ _ _ _ _ _ (T13.setTop (mkF m 110 #[.val (.int p1), .val (.int p2), .val (.int p3), .val (.int p4), .val (.int p5), .val (.ref b1), .val (.int bs), .val (.int bk), .val (.ref b10), .val (.int kd), .val .null, .val (.int (0 : Int32)), .unset, .unset, .unset] []))
          refine own_st (fun _ k => XS.iload X13.here hx rfl (hb hby at_110) rfl k) ?_
          show own_Gl _ _ _ _ _ _ _ (T13.setTop (mkF m 112 #[.val (.int p1), .val (.int p2), .val (.int p3), .val (.int p4), .val (.int p5), .val (.ref b1), .val (.int bs), .val (.int bk), .val (.ref b10), .val (.int kd), .val .null, .val (.int (0 : Int32)), .unset, .unset, .unset] [(.int kd)]))
          refine own_st (fun _ k => XS.iconst X13.here hx rfl (hb hby at_112) k) ?_
          show own_Gl _ _ _ _ _ _ _ (T13.setTop (mkF m 113 #[.val (.int p1), .val (.int p2), .val (.int p3), .val (.int p4), .val (.int p5), .val (.ref b1), .val (.int bs), .val (.int bk), .val (.ref b10), .val (.int kd), .val .null, .val (.int (0 : Int32)), .unset, .unset, .unset] [(.int (2 : Int32)), (.int kd)]))
          have hd38 : kd < (2 : Int32) := (by rw [hc62]; decide)
          refine own_st (fun _ k => XS.icmpYes X13.here hx rfl (pc0 := 113) (pc' := 125) rfl (hb hby at_113) rfl (tlt hd38).1 (by decide) (by decide) k) ?_
          show own_Gl _ _ _ _ _ _ _ (T13.setTop (mkF m 125 #[.val (.int p1), .val (.int p2), .val (.int p3), .val (.int p4), .val (.int p5), .val (.ref b1), .val (.int bs), .val (.int bk), .val (.ref b10), .val (.int kd), .val .null, .val (.int (0 : Int32)), .unset, .unset, .unset] []))
          refine own_st (fun _ k => XS.iconst X13.here hx rfl (hb hby at_125) k) ?_
          show own_Gl _ _ _ _ _ _ _ (T13.setTop (mkF m 126 #[.val (.int p1), .val (.int p2), .val (.int p3), .val (.int p4), .val (.int p5), .val (.ref b1), .val (.int bs), .val (.int bk), .val (.ref b10), .val (.int kd), .val .null, .val (.int (0 : Int32)), .unset, .unset, .unset] [(.int (0 : Int32))]))
          refine own_st (fun _ k => XS.istore X13.here hx rfl (hb hby at_126) rfl (l' := #[.val (.int p1), .val (.int p2), .val (.int p3), .val (.int p4), .val (.int p5), .val (.ref b1), .val (.int bs), .val (.int bk), .val (.ref b10), .val (.int kd), .val .null, .val (.int (0 : Int32)), .val (.int (0 : Int32)), .unset, .unset]) rfl k) ?_
          show own_Gl _ _ _ _ _ _ _ (T13.setTop (mkF m 128 #[.val (.int p1), .val (.int p2), .val (.int p3), .val (.int p4), .val (.int p5), .val (.ref b1), .val (.int bs), .val (.int bk), .val (.ref b10), .val (.int kd), .val .null, .val (.int (0 : Int32)), .val (.int (0 : Int32)), .unset, .unset] []))
          refine own_st (fun _ k => XS.aload X13.here hx rfl (hb hby at_128) rfl rfl k) ?_
          show own_Gl _ _ _ _ _ _ _ (T13.setTop (mkF m 130 #[.val (.int p1), .val (.int p2), .val (.int p3), .val (.int p4), .val (.int p5), .val (.ref b1), .val (.int bs), .val (.int bk), .val (.ref b10), .val (.int kd), .val .null, .val (.int (0 : Int32)), .val (.int (0 : Int32)), .unset, .unset] [(.ref b1)]))
          refine own_st (fun _ k => XS.aload X13.here hx rfl (hb hby at_130) rfl rfl k) ?_
          show own_Gl _ _ _ _ _ _ _ (T13.setTop (mkF m 132 #[.val (.int p1), .val (.int p2), .val (.int p3), .val (.int p4), .val (.int p5), .val (.ref b1), .val (.int bs), .val (.int bk), .val (.ref b10), .val (.int kd), .val .null, .val (.int (0 : Int32)), .val (.int (0 : Int32)), .unset, .unset] [.null, (.ref b1)]))
          have f40 := (f14.keep Kq13)
          have f41 := (A10.keep Kq13)
          obtain ⟨cq39, kq39, q39a, q39b, q39c⟩ := isOf hZ eh013 f40
          obtain ⟨_, _, ⟨T39, L39, k39, n39⟩, -, X39, ⟨Lc39, hQ39, l39, y39, z39⟩, st39⟩ := X13.virtualBack hx (y := (⟨"com/example/ewig/ewig/LogRotation", "equals", "(Ljava/lang/Object;)Z"⟩ : MethodName)) (z := (⟨"com/example/ewig/ewig/LogRotation", "equals", "(Ljava/lang/Object;)Z"⟩ : MethodName)) hown (mvT hZ (hw _ (List.mem_of_getElem? (i := 13) rfl))) (mvT hZ (hw _ (List.mem_of_getElem? (i := 14) rfl))) (notFace_of_selects (args := #[]) (mvT hZ (hw _ (List.mem_of_getElem? (i := 16) rfl)))) (mvT hZ (hw _ (List.mem_of_getElem? (i := 16) rfl))) (mvT hZ (hw _ (List.mem_of_getElem? (i := 15) rfl))) (by decide) (backOf (W := 0) (own_eq_null l Z a0 hw [] b1 hh13 n0 Zs15 ) hZ (hw _ (List.mem_of_getElem? (i := 17) rfl)) (hw _ (List.mem_of_getElem? (i := 2) rfl)) (by decide) (by decide)) q39a q39c (g := (mkF m 132 #[.val (.int p1), .val (.int p2), .val (.int p3), .val (.int p4), .val (.int p5), .val (.ref b1), .val (.int bs), .val (.int bk), .val (.ref b10), .val (.int kd), .val .null, .val (.int (0 : Int32)), .val (.int (0 : Int32)), .unset, .unset] [.null, (.ref b1)])) rfl (by rw [hml]; rfl) (Steps.refl _) (argsL := [.null]) (rest := []) (lenOf own_pd963338152 rfl) rfl (by show 2 * 0 + _ ≤ _; exact Nat.le_of_eq rfl) (hb hby at_132) (fun _ _ => ⟨rfl, eh013, (by decide : 2 + 0 ≤ room_1.cells), (by decide : 4 + 0 ≤ room_1.slots)⟩)
          dsimp only [Pt.U, Pt.locs, Pt.cells, Pt.slots] at X39 l39 y39 z39 st39 hQ39
          subst l39 y39 z39
          obtain ⟨hh39, eh039⟩ : ∃ z, T39.heap = z := ⟨_, rfl⟩
          rw [eh039] at hQ39
          obtain ⟨rfl, Nq39, eh39⟩ := hQ39
          have N39 := Fr.app N13 Nq39
          refine own_tr st39 ?_
          have e39 : T39.heap = hh13 := eh039.trans eh39
          show own_Gl _ _ _ _ _ _ _ (T39.setTop (mkF m 135 #[.val (.int p1), .val (.int p2), .val (.int p3), .val (.int p4), .val (.int p5), .val (.ref b1), .val (.int bs), .val (.int bk), .val (.ref b10), .val (.int kd), .val .null, .val (.int (0 : Int32)), .val (.int (0 : Int32)), .unset, .unset] [(.int (0 : Int32))]))
          refine own_st (fun _ k => XS.iload X39.here hx rfl (hb hby at_135) rfl k) ?_
          show own_Gl _ _ _ _ _ _ _ (T39.setTop (mkF m 137 #[.val (.int p1), .val (.int p2), .val (.int p3), .val (.int p4), .val (.int p5), .val (.ref b1), .val (.int bs), .val (.int bk), .val (.ref b10), .val (.int kd), .val .null, .val (.int (0 : Int32)), .val (.int (0 : Int32)), .unset, .unset] [(.int (0 : Int32)), (.int (0 : Int32))]))
          have hd42 : (0 : Int32) = (0 : Int32) := (by decide)
          refine own_st (fun _ k => XS.icmpNo X39.here hx rfl (hb hby at_137) rfl (teq hd42).2 k) ?_
          show own_Gl _ _ _ _ _ _ _ (T39.setTop (mkF m 140 #[.val (.int p1), .val (.int p2), .val (.int p3), .val (.int p4), .val (.int p5), .val (.ref b1), .val (.int bs), .val (.int bk), .val (.ref b10), .val (.int kd), .val .null, .val (.int (0 : Int32)), .val (.int (0 : Int32)), .unset, .unset] []))
          refine own_st (fun _ k => XS.iconst X39.here hx rfl (hb hby at_140) k) ?_
          show own_Gl _ _ _ _ _ _ _ (T39.setTop (mkF m 141 #[.val (.int p1), .val (.int p2), .val (.int p3), .val (.int p4), .val (.int p5), .val (.ref b1), .val (.int bs), .val (.int bk), .val (.ref b10), .val (.int kd), .val .null, .val (.int (0 : Int32)), .val (.int (0 : Int32)), .unset, .unset] [(.int (1 : Int32))]))
          refine own_st (fun _ k => XS.goto X39.here hx rfl (pc0 := 141) (pc' := 145) rfl (hb hby at_141) (by decide) (by decide) k) ?_
          show own_Gl _ _ _ _ _ _ _ (T39.setTop (mkF m 145 #[.val (.int p1), .val (.int p2), .val (.int p3), .val (.int p4), .val (.int p5), .val (.ref b1), .val (.int bs), .val (.int bk), .val (.ref b10), .val (.int kd), .val .null, .val (.int (0 : Int32)), .val (.int (0 : Int32)), .unset, .unset] [(.int (1 : Int32))]))
          refine own_st (fun _ k => XS.istore X39.here hx rfl (hb hby at_145) rfl (l' := #[.val (.int p1), .val (.int p2), .val (.int p3), .val (.int p4), .val (.int p5), .val (.ref b1), .val (.int bs), .val (.int bk), .val (.ref b10), .val (.int kd), .val .null, .val (.int (0 : Int32)), .val (.int (0 : Int32)), .val (.int (1 : Int32)), .unset]) rfl k) ?_
          show own_Gl _ _ _ _ _ _ _ (T39.setTop (mkF m 147 #[.val (.int p1), .val (.int p2), .val (.int p3), .val (.int p4), .val (.int p5), .val (.ref b1), .val (.int bs), .val (.int bk), .val (.ref b10), .val (.int kd), .val .null, .val (.int (0 : Int32)), .val (.int (0 : Int32)), .val (.int (1 : Int32)), .unset] []))
          refine own_st (fun _ k => XS.aload X39.here hx rfl (hb hby at_147) rfl rfl k) ?_
          show own_Gl _ _ _ _ _ _ _ (T39.setTop (mkF m 149 #[.val (.int p1), .val (.int p2), .val (.int p3), .val (.int p4), .val (.int p5), .val (.ref b1), .val (.int bs), .val (.int bk), .val (.ref b10), .val (.int kd), .val .null, .val (.int (0 : Int32)), .val (.int (0 : Int32)), .val (.int (1 : Int32)), .unset] [(.ref b10)]))
          refine own_st (fun _ k => XS.aload X39.here hx rfl (hb hby at_149) rfl rfl k) ?_
          show own_Gl _ _ _ _ _ _ _ (T39.setTop (mkF m 151 #[.val (.int p1), .val (.int p2), .val (.int p3), .val (.int p4), .val (.int p5), .val (.ref b1), .val (.int bs), .val (.int bk), .val (.ref b10), .val (.int kd), .val .null, .val (.int (0 : Int32)), .val (.int (0 : Int32)), .val (.int (1 : Int32)), .unset] [(.ref b1), (.ref b10)]))
          have f44 := ((P4_0.ext E10).keep Kq13 (ninS ne_b1_b10 nin0))
          have f45 := ((P4_1.ext E10).keep Kq13 (ninS ne_b1_b10 nin0))
          obtain ⟨cq43, kq43, q43a, q43b, q43c⟩ := isOf hZ e39 f41
          obtain ⟨_, _, ⟨T43, L43, k43, n43⟩, -, X43, ⟨Lc43, hQ43, l43, y43, z43⟩, st43⟩ := X39.virtualBack hx (y := (⟨"com/example/ewig/ewig/LogRotation", "equals", "(Ljava/lang/Object;)Z"⟩ : MethodName)) (z := (⟨"com/example/ewig/ewig/LogRotation", "equals", "(Ljava/lang/Object;)Z"⟩ : MethodName)) hown (mvT hZ (hw _ (List.mem_of_getElem? (i := 13) rfl))) (mvT hZ (hw _ (List.mem_of_getElem? (i := 14) rfl))) (notFace_of_selects (args := #[]) (mvT hZ (hw _ (List.mem_of_getElem? (i := 16) rfl)))) (mvT hZ (hw _ (List.mem_of_getElem? (i := 16) rfl))) (mvT hZ (hw _ (List.mem_of_getElem? (i := 15) rfl))) (by decide) (backOf (W := 0) (own_eq_obj l Z a0 hw [] b10 b1 bs bk p1 p2 hh13 n0 Zs15 f40 P13_0 P13_1 f44 f45) hZ (hw _ (List.mem_of_getElem? (i := 17) rfl)) (hw _ (List.mem_of_getElem? (i := 2) rfl)) (by decide) (by decide)) q43a q43c (g := (mkF m 151 #[.val (.int p1), .val (.int p2), .val (.int p3), .val (.int p4), .val (.int p5), .val (.ref b1), .val (.int bs), .val (.int bk), .val (.ref b10), .val (.int kd), .val .null, .val (.int (0 : Int32)), .val (.int (0 : Int32)), .val (.int (1 : Int32)), .unset] [(.ref b1), (.ref b10)])) rfl (by rw [hml]; rfl) (Steps.refl _) (argsL := [(.ref b1)]) (rest := []) (lenOf own_pd963338152 rfl) rfl (by show 2 * 0 + _ ≤ _; exact Nat.le_of_eq rfl) (hb hby at_151) (fun _ _ => ⟨rfl, e39, (by decide : 2 + 0 ≤ room_1.cells), (by decide : 4 + 0 ≤ room_1.slots)⟩)
          dsimp only [Pt.U, Pt.locs, Pt.cells, Pt.slots] at X43 l43 y43 z43 st43 hQ43
          subst l43 y43 z43
          obtain ⟨hh43, eh043⟩ : ∃ z, T43.heap = z := ⟨_, rfl⟩
          rw [eh043] at hQ43
          obtain ⟨rfl, Nq43, eh43⟩ := hQ43
          have N43 := Fr.app N39 Nq43
          refine own_tr st43 ?_
          have e43 : T43.heap = hh13 := eh043.trans eh43
          show own_Gl _ _ _ _ _ _ _ (T43.setTop (mkF m 154 #[.val (.int p1), .val (.int p2), .val (.int p3), .val (.int p4), .val (.int p5), .val (.ref b1), .val (.int bs), .val (.int bk), .val (.ref b10), .val (.int kd), .val .null, .val (.int (0 : Int32)), .val (.int (0 : Int32)), .val (.int (1 : Int32)), .unset] [(.int (if bs = p1 then (if bk = p2 then (1 : Int32) else (0 : Int32)) else (0 : Int32)))]))
          refine own_st (fun _ k => XS.iload X43.here hx rfl (hb hby at_154) rfl k) ?_
          show own_Gl _ _ _ _ _ _ _ (T43.setTop (mkF m 156 #[.val (.int p1), .val (.int p2), .val (.int p3), .val (.int p4), .val (.int p5), .val (.ref b1), .val (.int bs), .val (.int bk), .val (.ref b10), .val (.int kd), .val .null, .val (.int (0 : Int32)), .val (.int (0 : Int32)), .val (.int (1 : Int32)), .unset] [(.int (0 : Int32)), (.int (if bs = p1 then (if bk = p2 then (1 : Int32) else (0 : Int32)) else (0 : Int32)))]))
          have hd46 : (if bs = p1 then (if bk = p2 then (1 : Int32) else (0 : Int32)) else (0 : Int32)) = (0 : Int32) := (by rw [if_neg hc94])
          refine own_st (fun _ k => XS.icmpNo X43.here hx rfl (hb hby at_156) rfl (teq hd46).2 k) ?_
          show own_Gl _ _ _ _ _ _ _ (T43.setTop (mkF m 159 #[.val (.int p1), .val (.int p2), .val (.int p3), .val (.int p4), .val (.int p5), .val (.ref b1), .val (.int bs), .val (.int bk), .val (.ref b10), .val (.int kd), .val .null, .val (.int (0 : Int32)), .val (.int (0 : Int32)), .val (.int (1 : Int32)), .unset] []))
          refine own_st (fun _ k => XS.iconst X43.here hx rfl (hb hby at_159) k) ?_
          show own_Gl _ _ _ _ _ _ _ (T43.setTop (mkF m 160 #[.val (.int p1), .val (.int p2), .val (.int p3), .val (.int p4), .val (.int p5), .val (.ref b1), .val (.int bs), .val (.int bk), .val (.ref b10), .val (.int kd), .val .null, .val (.int (0 : Int32)), .val (.int (0 : Int32)), .val (.int (1 : Int32)), .unset] [(.int (1 : Int32))]))
          refine own_st (fun _ k => XS.goto X43.here hx rfl (pc0 := 160) (pc' := 164) rfl (hb hby at_160) (by decide) (by decide) k) ?_
          show own_Gl _ _ _ _ _ _ _ (T43.setTop (mkF m 164 #[.val (.int p1), .val (.int p2), .val (.int p3), .val (.int p4), .val (.int p5), .val (.ref b1), .val (.int bs), .val (.int bk), .val (.ref b10), .val (.int kd), .val .null, .val (.int (0 : Int32)), .val (.int (0 : Int32)), .val (.int (1 : Int32)), .unset] [(.int (1 : Int32))]))
          refine own_st (fun _ k => XS.istore X43.here hx rfl (hb hby at_164) rfl (l' := #[.val (.int p1), .val (.int p2), .val (.int p3), .val (.int p4), .val (.int p5), .val (.ref b1), .val (.int bs), .val (.int bk), .val (.ref b10), .val (.int kd), .val .null, .val (.int (0 : Int32)), .val (.int (0 : Int32)), .val (.int (1 : Int32)), .val (.int (1 : Int32))]) rfl k) ?_
          show own_Gl _ _ _ _ _ _ _ (T43.setTop (mkF m 166 #[.val (.int p1), .val (.int p2), .val (.int p3), .val (.int p4), .val (.int p5), .val (.ref b1), .val (.int bs), .val (.int bk), .val (.ref b10), .val (.int kd), .val .null, .val (.int (0 : Int32)), .val (.int (0 : Int32)), .val (.int (1 : Int32)), .val (.int (1 : Int32))] []))
          refine own_st (fun _ k => XS.iload X43.here hx rfl (hb hby at_166) rfl k) ?_
          show own_Gl _ _ _ _ _ _ _ (T43.setTop (mkF m 168 #[.val (.int p1), .val (.int p2), .val (.int p3), .val (.int p4), .val (.int p5), .val (.ref b1), .val (.int bs), .val (.int bk), .val (.ref b10), .val (.int kd), .val .null, .val (.int (0 : Int32)), .val (.int (0 : Int32)), .val (.int (1 : Int32)), .val (.int (1 : Int32))] [(.int (1 : Int32))]))
          have hd47 : ¬ ((1 : Int32) = (0 : Int32)) := (by decide)
          refine own_st (fun _ k => XS.ifNo X43.here hx rfl (hb hby at_168) rfl ((if0 _ _).trans (feq hd47).1) k) ?_
          show own_Gl _ _ _ _ _ _ _ (T43.setTop (mkF m 171 #[.val (.int p1), .val (.int p2), .val (.int p3), .val (.int p4), .val (.int p5), .val (.ref b1), .val (.int bs), .val (.int bk), .val (.ref b10), .val (.int kd), .val .null, .val (.int (0 : Int32)), .val (.int (0 : Int32)), .val (.int (1 : Int32)), .val (.int (1 : Int32))] []))
          refine own_st (fun _ k => XS.iload X43.here hx rfl (hb hby at_171) rfl k) ?_
          show own_Gl _ _ _ _ _ _ _ (T43.setTop (mkF m 173 #[.val (.int p1), .val (.int p2), .val (.int p3), .val (.int p4), .val (.int p5), .val (.ref b1), .val (.int bs), .val (.int bk), .val (.ref b10), .val (.int kd), .val .null, .val (.int (0 : Int32)), .val (.int (0 : Int32)), .val (.int (1 : Int32)), .val (.int (1 : Int32))] [(.int (1 : Int32))]))
          have hd48 : ¬ ((1 : Int32) = (0 : Int32)) := (by decide)
          refine own_st (fun _ k => XS.ifNo X43.here hx rfl (hb hby at_173) rfl ((if0 _ _).trans (feq hd48).1) k) ?_
          show own_Gl _ _ _ _ _ _ _ (T43.setTop (mkF m 176 #[.val (.int p1), .val (.int p2), .val (.int p3), .val (.int p4), .val (.int p5), .val (.ref b1), .val (.int bs), .val (.int bk), .val (.ref b10), .val (.int kd), .val .null, .val (.int (0 : Int32)), .val (.int (0 : Int32)), .val (.int (1 : Int32)), .val (.int (1 : Int32))] []))
          refine own_st (fun _ k => XS.iconst X43.here hx rfl (hb hby at_176) k) ?_
          show own_Gl _ _ _ _ _ _ _ (T43.setTop (mkF m 177 #[.val (.int p1), .val (.int p2), .val (.int p3), .val (.int p4), .val (.int p5), .val (.ref b1), .val (.int bs), .val (.int bk), .val (.ref b10), .val (.int kd), .val .null, .val (.int (0 : Int32)), .val (.int (0 : Int32)), .val (.int (1 : Int32)), .val (.int (1 : Int32))] [(.int (1 : Int32))]))
          refine own_st (fun _ k => XS.goto X43.here hx rfl (pc0 := 177) (pc' := 181) rfl (hb hby at_177) (by decide) (by decide) k) ?_
          show own_Gl _ _ _ _ _ _ _ (T43.setTop (mkF m 181 #[.val (.int p1), .val (.int p2), .val (.int p3), .val (.int p4), .val (.int p5), .val (.ref b1), .val (.int bs), .val (.int bk), .val (.ref b10), .val (.int kd), .val .null, .val (.int (0 : Int32)), .val (.int (0 : Int32)), .val (.int (1 : Int32)), .val (.int (1 : Int32))] [(.int (1 : Int32))]))
          exact own_retN X43 hx hlk (t := .boolean) hret (by simp) (hb hby at_181) e43 ⟨rfl, N43⟩ (by decide) (by decide)
      · refine own_st (fun _ k => XS.ifYes X13.here hx rfl (pc0 := 62) (pc' := 71) rfl (hb hby at_62) rfl ((if0 _ _).trans (feq hc62).2) (by decide) (by decide) k) ?_
        show own_Gl _ _ _ _ _ _ _ (T13.setTop (mkF m 71 #[.val (.int p1), .val (.int p2), .val (.int p3), .val (.int p4), .val (.int p5), .val (.ref b1), .val (.int bs), .val (.int bk), .val (.ref b10), .val (.int kd), .unset, .unset, .unset, .unset, .unset] []))
        refine own_st (fun _ k => XS.iload X13.here hx rfl (hb hby at_71) rfl k) ?_
        show own_Gl _ _ _ _ _ _ _ (T13.setTop (mkF m 73 #[.val (.int p1), .val (.int p2), .val (.int p3), .val (.int p4), .val (.int p5), .val (.ref b1), .val (.int bs), .val (.int bk), .val (.ref b10), .val (.int kd), .unset, .unset, .unset, .unset, .unset] [(.int kd)]))
        refine own_st (fun _ k => XS.iconst X13.here hx rfl (hb hby at_73) k) ?_
        show own_Gl _ _ _ _ _ _ _ (T13.setTop (mkF m 74 #[.val (.int p1), .val (.int p2), .val (.int p3), .val (.int p4), .val (.int p5), .val (.ref b1), .val (.int bs), .val (.int bk), .val (.ref b10), .val (.int kd), .unset, .unset, .unset, .unset, .unset] [(.int (1 : Int32)), (.int kd)]))
        by_cases hc74 : kd = (1 : Int32)
        · refine own_st (fun _ k => XS.icmpNo X13.here hx rfl (hb hby at_74) rfl (teq hc74).2 k) ?_
          show own_Gl _ _ _ _ _ _ _ (T13.setTop (mkF m 77 #[.val (.int p1), .val (.int p2), .val (.int p3), .val (.int p4), .val (.int p5), .val (.ref b1), .val (.int bs), .val (.int bk), .val (.ref b10), .val (.int kd), .unset, .unset, .unset, .unset, .unset] []))
          refine own_st (fun _ k => XS.iload X13.here hx rfl (hb hby at_77) rfl k) ?_
          show own_Gl _ _ _ _ _ _ _ (T13.setTop (mkF m 79 #[.val (.int p1), .val (.int p2), .val (.int p3), .val (.int p4), .val (.int p5), .val (.ref b1), .val (.int bs), .val (.int bk), .val (.ref b10), .val (.int kd), .unset, .unset, .unset, .unset, .unset] [(.int bs)]))
          have f50 := ((((Old0.ext E1).keep Kq4 (allS g_b1 all0)).ext E10).keep Kq13 (allS g_b10 all0))
          have f51 := (f14.keep Kq13)
          have f52 := (A10.keep Kq13)
          obtain ⟨_, _, ⟨T49, L49, k49, n49⟩, -, X49, ⟨Lc49, hQ49, l49, y49, z49⟩, st49⟩ := Jvm.LawKit.callS X13 hx (y := (⟨"java/lang/Integer", "valueOf", "(I)Ljava/lang/Integer;"⟩ : MethodName)) hown (mvT hZ (hw _ (List.mem_of_getElem? (i := 20) rfl))) (mvT hZ (hw _ (List.mem_of_getElem? (i := 21) rfl))) (mvT hZ (hw _ (List.mem_of_getElem? (i := 22) rfl))) (mvT hZ (hw _ (List.mem_of_getElem? (i := 23) rfl))) (by decide) (backOf (W := 0) (own_valueOf l Z a0 hw [] bs ca ccl hh13 n0 Zs15 (S_high.ext f50.2) (S_cache.ext f50.2) (hcaZ.ext f50.2) hcs (fun j q1 q2 => (hcacheZ j q1 q2).imp fun r q => ⟨q.1, q.2.ext f50.2⟩)) hZ (hw _ (List.mem_of_getElem? (i := 23) rfl)) (hw _ (List.mem_of_getElem? (i := 22) rfl)) (by decide) (by decide)) (g := (mkF m 79 #[.val (.int p1), .val (.int p2), .val (.int p3), .val (.int p4), .val (.int p5), .val (.ref b1), .val (.int bs), .val (.int bk), .val (.ref b10), .val (.int kd), .unset, .unset, .unset, .unset, .unset] [(.int bs)])) rfl (by rw [hml]; rfl) (argsL := [(.int bs)]) (rest := []) (lenOf own_pd948847338 rfl) rfl (by show 2 * 0 + _ ≤ _; exact Nat.le_of_eq rfl) (hb hby at_79) (fun _ _ => ⟨rfl, eh013, (by decide : 2 + 1 ≤ room_1.cells), (by decide : 4 + 1 ≤ room_1.slots)⟩)
          dsimp only [Pt.U, Pt.locs, Pt.cells, Pt.slots] at X49 l49 y49 z49 st49 hQ49
          subst l49 y49 z49
          obtain ⟨hh49, eh049⟩ : ∃ z, T49.heap = z := ⟨_, rfl⟩
          rw [eh049] at hQ49
          obtain ⟨r_49, rfl, Nq49, Kq49, P49_0⟩ := hQ49
          have N49 := Fr.app N13 Nq49
          refine own_st st49 ?_
          have K53 : Keep h0 hh13 [] := ((K9.ext E10).trans Kq13 (allS (Or.inr gh_b10) all0))
          have Zs54 : n0 ≤ hh49.size := Nat.le_trans Zs15 Kq49.1
          show own_Gl _ _ _ _ _ _ _ (T49.setTop (mkF m 82 #[.val (.int p1), .val (.int p2), .val (.int p3), .val (.int p4), .val (.int p5), .val (.ref b1), .val (.int bs), .val (.int bk), .val (.ref b10), .val (.int kd), .unset, .unset, .unset, .unset, .unset] [(.ref r_49)]))
          refine own_st (fun _ k => XS.astore X49.here hx rfl (hb hby at_82) rfl rfl (l' := #[.val (.int p1), .val (.int p2), .val (.int p3), .val (.int p4), .val (.int p5), .val (.ref b1), .val (.int bs), .val (.int bk), .val (.ref b10), .val (.int kd), .val (.ref r_49), .unset, .unset, .unset, .unset]) rfl k) ?_
          show own_Gl _ _ _ _ _ _ _ (T49.setTop (mkF m 84 #[.val (.int p1), .val (.int p2), .val (.int p3), .val (.int p4), .val (.int p5), .val (.ref b1), .val (.int bs), .val (.int bk), .val (.ref b10), .val (.int kd), .val (.ref r_49), .unset, .unset, .unset, .unset] []))
          refine own_st (fun _ k => XS.goto X49.here hx rfl (pc0 := 84) (pc' := 91) rfl (hb hby at_84) (by decide) (by decide) k) ?_
          show own_Gl _ _ _ _ _ _ _ (T49.setTop (mkF m 91 #[.val (.int p1), .val (.int p2), .val (.int p3), .val (.int p4), .val (.int p5), .val (.ref b1), .val (.int bs), .val (.int bk), .val (.ref b10), .val (.int kd), .val (.ref r_49), .unset, .unset, .unset, .unset] []))
          refine own_st (fun _ k => XS.iload X49.here hx rfl (hb hby at_91) rfl k) ?_
          show own_Gl _ _ _ _ _ _ _ (T49.setTop (mkF m 93 #[.val (.int p1), .val (.int p2), .val (.int p3), .val (.int p4), .val (.int p5), .val (.ref b1), .val (.int bs), .val (.int bk), .val (.ref b10), .val (.int kd), .val (.ref r_49), .unset, .unset, .unset, .unset] [(.int bs)]))
          refine own_st (fun _ k => XS.iloadN X49.here hx rfl (hb hby at_93) rfl k) ?_
          show own_Gl _ _ _ _ _ _ _ (T49.setTop (mkF m 94 #[.val (.int p1), .val (.int p2), .val (.int p3), .val (.int p4), .val (.int p5), .val (.ref b1), .val (.int bs), .val (.int bk), .val (.ref b10), .val (.int kd), .val (.ref r_49), .unset, .unset, .unset, .unset] [(.int p1), (.int bs)]))
          by_cases hc94 : bs = p1
          · refine own_st (fun _ k => XS.icmpNo X49.here hx rfl (hb hby at_94) rfl (teq hc94).2 k) ?_
            show own_Gl _ _ _ _ _ _ _ (T49.setTop (mkF m 97 #[.val (.int p1), .val (.int p2), .val (.int p3), .val (.int p4), .val (.int p5), .val (.ref b1), .val (.int bs), .val (.int bk), .val (.ref b10), .val (.int kd), .val (.ref r_49), .unset, .unset, .unset, .unset] []))
            refine own_st (fun _ k => XS.iload X49.here hx rfl (hb hby at_97) rfl k) ?_
            show own_Gl _ _ _ _ _ _ _ (T49.setTop (mkF m 99 #[.val (.int p1), .val (.int p2), .val (.int p3), .val (.int p4), .val (.int p5), .val (.ref b1), .val (.int bs), .val (.int bk), .val (.ref b10), .val (.int kd), .val (.ref r_49), .unset, .unset, .unset, .unset] [(.int bk)]))
            refine own_st (fun _ k => XS.iloadN X49.here hx rfl (hb hby at_99) rfl k) ?_
            show own_Gl _ _ _ _ _ _ _ (T49.setTop (mkF m 100 #[.val (.int p1), .val (.int p2), .val (.int p3), .val (.int p4), .val (.int p5), .val (.ref b1), .val (.int bs), .val (.int bk), .val (.ref b10), .val (.int kd), .val (.ref r_49), .unset, .unset, .unset, .unset] [(.int p2), (.int bk)]))
            by_cases hc100 : bk = p2
            · refine own_st (fun _ k => XS.icmpNo X49.here hx rfl (hb hby at_100) rfl (teq hc100).2 k) ?_
              show own_Gl _ _ _ _ _ _ _ (T49.setTop (mkF m 103 #[.val (.int p1), .val (.int p2), .val (.int p3), .val (.int p4), .val (.int p5), .val (.ref b1), .val (.int bs), .val (.int bk), .val (.ref b10), .val (.int kd), .val (.ref r_49), .unset, .unset, .unset, .unset] []))
              refine own_st (fun _ k => XS.iconst X49.here hx rfl (hb hby at_103) k) ?_
              show own_Gl _ _ _ _ _ _ _ (T49.setTop (mkF m 104 #[.val (.int p1), .val (.int p2), .val (.int p3), .val (.int p4), .val (.int p5), .val (.ref b1), .val (.int bs), .val (.int bk), .val (.ref b10), .val (.int kd), .val (.ref r_49), .unset, .unset, .unset, .unset] [(.int (1 : Int32))]))
              refine own_st (fun _ k => XS.goto X49.here hx rfl (pc0 := 104) (pc' := 108) rfl (hb hby at_104) (by decide) (by decide) k) ?_
              show own_Gl _ _ _ _ _ _ _ (T49.setTop (mkF m 108 #[.val (.int p1), .val (.int p2), .val (.int p3), .val (.int p4), .val (.int p5), .val (.ref b1), .val (.int bs), .val (.int bk), .val (.ref b10), .val (.int kd), .val (.ref r_49), .unset, .unset, .unset, .unset] [(.int (1 : Int32))]))
              refine own_st (fun _ k => XS.istore X49.here hx rfl (hb hby at_108) rfl (l' := #[.val (.int p1), .val (.int p2), .val (.int p3), .val (.int p4), .val (.int p5), .val (.ref b1), .val (.int bs), .val (.int bk), .val (.ref b10), .val (.int kd), .val (.ref r_49), .val (.int (1 : Int32)), .unset, .unset, .unset]) rfl k) ?_
              show own_Gl _ _ _ _ _ _ _ (T49.setTop (mkF m 110 #[.val (.int p1), .val (.int p2), .val (.int p3), .val (.int p4), .val (.int p5), .val (.ref b1), .val (.int bs), .val (.int bk), .val (.ref b10), .val (.int kd), .val (.ref r_49), .val (.int (1 : Int32)), .unset, .unset, .unset] []))
              refine own_st (fun _ k => XS.iload X49.here hx rfl (hb hby at_110) rfl k) ?_
              show own_Gl _ _ _ _ _ _ _ (T49.setTop (mkF m 112 #[.val (.int p1), .val (.int p2), .val (.int p3), .val (.int p4), .val (.int p5), .val (.ref b1), .val (.int bs), .val (.int bk), .val (.ref b10), .val (.int kd), .val (.ref r_49), .val (.int (1 : Int32)), .unset, .unset, .unset] [(.int kd)]))
              refine own_st (fun _ k => XS.iconst X49.here hx rfl (hb hby at_112) k) ?_
              show own_Gl _ _ _ _ _ _ _ (T49.setTop (mkF m 113 #[.val (.int p1), .val (.int p2), .val (.int p3), .val (.int p4), .val (.int p5), .val (.ref b1), .val (.int bs), .val (.int bk), .val (.ref b10), .val (.int kd), .val (.ref r_49), .val (.int (1 : Int32)), .unset, .unset, .unset] [(.int (2 : Int32)), (.int kd)]))
              have hd55 : kd < (2 : Int32) := (by rw [hc74]; decide)
              refine own_st (fun _ k => XS.icmpYes X49.here hx rfl (pc0 := 113) (pc' := 125) rfl (hb hby at_113) rfl (tlt hd55).1 (by decide) (by decide) k) ?_
              show own_Gl _ _ _ _ _ _ _ (T49.setTop (mkF m 125 #[.val (.int p1), .val (.int p2), .val (.int p3), .val (.int p4), .val (.int p5), .val (.ref b1), .val (.int bs), .val (.int bk), .val (.ref b10), .val (.int kd), .val (.ref r_49), .val (.int (1 : Int32)), .unset, .unset, .unset] []))
              refine own_st (fun _ k => XS.iconst X49.here hx rfl (hb hby at_125) k) ?_
              show own_Gl _ _ _ _ _ _ _ (T49.setTop (mkF m 126 #[.val (.int p1), .val (.int p2), .val (.int p3), .val (.int p4), .val (.int p5), .val (.ref b1), .val (.int bs), .val (.int bk), .val (.ref b10), .val (.int kd), .val (.ref r_49), .val (.int (1 : Int32)), .unset, .unset, .unset] [(.int (0 : Int32))]))
              refine own_st (fun _ k => XS.istore X49.here hx rfl (hb hby at_126) rfl (l' := #[.val (.int p1), .val (.int p2), .val (.int p3), .val (.int p4), .val (.int p5), .val (.ref b1), .val (.int bs), .val (.int bk), .val (.ref b10), .val (.int kd), .val (.ref r_49), .val (.int (1 : Int32)), .val (.int (0 : Int32)), .unset, .unset]) rfl k) ?_
              show own_Gl _ _ _ _ _ _ _ (T49.setTop (mkF m 128 #[.val (.int p1), .val (.int p2), .val (.int p3), .val (.int p4), .val (.int p5), .val (.ref b1), .val (.int bs), .val (.int bk), .val (.ref b10), .val (.int kd), .val (.ref r_49), .val (.int (1 : Int32)), .val (.int (0 : Int32)), .unset, .unset] []))
              refine own_st (fun _ k => XS.aload X49.here hx rfl (hb hby at_128) rfl rfl k) ?_
              show own_Gl _ _ _ _ _ _ _ (T49.setTop (mkF m 130 #[.val (.int p1), .val (.int p2), .val (.int p3), .val (.int p4), .val (.int p5), .val (.ref b1), .val (.int bs), .val (.int bk), .val (.ref b10), .val (.int kd), .val (.ref r_49), .val (.int (1 : Int32)), .val (.int (0 : Int32)), .unset, .unset] [(.ref b1)]))
              refine own_st (fun _ k => XS.aload X49.here hx rfl (hb hby at_130) rfl rfl k) ?_
              show own_Gl _ _ _ _ _ _ _ (T49.setTop (mkF m 132 #[.val (.int p1), .val (.int p2), .val (.int p3), .val (.int p4), .val (.int p5), .val (.ref b1), .val (.int bs), .val (.int bk), .val (.ref b10), .val (.int kd), .val (.ref r_49), .val (.int (1 : Int32)), .val (.int (0 : Int32)), .unset, .unset] [(.ref r_49), (.ref b1)]))
              have f57 := (f51.keep Kq49)
              have f58 := (f52.keep Kq49)
              obtain ⟨cq56, kq56, q56a, q56b, q56c⟩ := isOf hZ eh049 f57
              obtain ⟨_, _, ⟨T56, L56, k56, n56⟩, -, X56, ⟨Lc56, hQ56, l56, y56, z56⟩, st56⟩ := X49.virtualBack hx (y := (⟨"com/example/ewig/ewig/LogRotation", "equals", "(Ljava/lang/Object;)Z"⟩ : MethodName)) (z := (⟨"com/example/ewig/ewig/LogRotation", "equals", "(Ljava/lang/Object;)Z"⟩ : MethodName)) hown (mvT hZ (hw _ (List.mem_of_getElem? (i := 13) rfl))) (mvT hZ (hw _ (List.mem_of_getElem? (i := 14) rfl))) (notFace_of_selects (args := #[]) (mvT hZ (hw _ (List.mem_of_getElem? (i := 16) rfl)))) (mvT hZ (hw _ (List.mem_of_getElem? (i := 16) rfl))) (mvT hZ (hw _ (List.mem_of_getElem? (i := 15) rfl))) (by decide) (backOf (W := 0) (own_eq_int l Z a0 hw [] b1 r_49 hh49 n0 Zs54 P49_0) hZ (hw _ (List.mem_of_getElem? (i := 17) rfl)) (hw _ (List.mem_of_getElem? (i := 2) rfl)) (by decide) (by decide)) q56a q56c (g := (mkF m 132 #[.val (.int p1), .val (.int p2), .val (.int p3), .val (.int p4), .val (.int p5), .val (.ref b1), .val (.int bs), .val (.int bk), .val (.ref b10), .val (.int kd), .val (.ref r_49), .val (.int (1 : Int32)), .val (.int (0 : Int32)), .unset, .unset] [(.ref r_49), (.ref b1)])) rfl (by rw [hml]; rfl) (Steps.refl _) (argsL := [(.ref r_49)]) (rest := []) (lenOf own_pd963338152 rfl) rfl (by show 2 * 0 + _ ≤ _; exact Nat.le_of_eq rfl) (hb hby at_132) (fun _ _ => ⟨rfl, eh049, (by decide : 3 + 0 ≤ room_1.cells), (by decide : 5 + 0 ≤ room_1.slots)⟩)
              dsimp only [Pt.U, Pt.locs, Pt.cells, Pt.slots] at X56 l56 y56 z56 st56 hQ56
              subst l56 y56 z56
              obtain ⟨hh56, eh056⟩ : ∃ z, T56.heap = z := ⟨_, rfl⟩
              rw [eh056] at hQ56
              obtain ⟨rfl, Nq56, eh56⟩ := hQ56
              have N56 := Fr.app N49 Nq56
              refine own_tr st56 ?_
              have e56 : T56.heap = hh49 := eh056.trans eh56
              show own_Gl _ _ _ _ _ _ _ (T56.setTop (mkF m 135 #[.val (.int p1), .val (.int p2), .val (.int p3), .val (.int p4), .val (.int p5), .val (.ref b1), .val (.int bs), .val (.int bk), .val (.ref b10), .val (.int kd), .val (.ref r_49), .val (.int (1 : Int32)), .val (.int (0 : Int32)), .unset, .unset] [(.int (0 : Int32))]))
              refine own_st (fun _ k => XS.iload X56.here hx rfl (hb hby at_135) rfl k) ?_
              show own_Gl _ _ _ _ _ _ _ (T56.setTop (mkF m 137 #[.val (.int p1), .val (.int p2), .val (.int p3), .val (.int p4), .val (.int p5), .val (.ref b1), .val (.int bs), .val (.int bk), .val (.ref b10), .val (.int kd), .val (.ref r_49), .val (.int (1 : Int32)), .val (.int (0 : Int32)), .unset, .unset] [(.int (0 : Int32)), (.int (0 : Int32))]))
              have hd59 : (0 : Int32) = (0 : Int32) := (by decide)
              refine own_st (fun _ k => XS.icmpNo X56.here hx rfl (hb hby at_137) rfl (teq hd59).2 k) ?_
              show own_Gl _ _ _ _ _ _ _ (T56.setTop (mkF m 140 #[.val (.int p1), .val (.int p2), .val (.int p3), .val (.int p4), .val (.int p5), .val (.ref b1), .val (.int bs), .val (.int bk), .val (.ref b10), .val (.int kd), .val (.ref r_49), .val (.int (1 : Int32)), .val (.int (0 : Int32)), .unset, .unset] []))
              refine own_st (fun _ k => XS.iconst X56.here hx rfl (hb hby at_140) k) ?_
              show own_Gl _ _ _ _ _ _ _ (T56.setTop (mkF m 141 #[.val (.int p1), .val (.int p2), .val (.int p3), .val (.int p4), .val (.int p5), .val (.ref b1), .val (.int bs), .val (.int bk), .val (.ref b10), .val (.int kd), .val (.ref r_49), .val (.int (1 : Int32)), .val (.int (0 : Int32)), .unset, .unset] [(.int (1 : Int32))]))
              refine own_st (fun _ k => XS.goto X56.here hx rfl (pc0 := 141) (pc' := 145) rfl (hb hby at_141) (by decide) (by decide) k) ?_
              show own_Gl _ _ _ _ _ _ _ (T56.setTop (mkF m 145 #[.val (.int p1), .val (.int p2), .val (.int p3), .val (.int p4), .val (.int p5), .val (.ref b1), .val (.int bs), .val (.int bk), .val (.ref b10), .val (.int kd), .val (.ref r_49), .val (.int (1 : Int32)), .val (.int (0 : Int32)), .unset, .unset] [(.int (1 : Int32))]))
              refine own_st (fun _ k => XS.istore X56.here hx rfl (hb hby at_145) rfl (l' := #[.val (.int p1), .val (.int p2), .val (.int p3), .val (.int p4), .val (.int p5), .val (.ref b1), .val (.int bs), .val (.int bk), .val (.ref b10), .val (.int kd), .val (.ref r_49), .val (.int (1 : Int32)), .val (.int (0 : Int32)), .val (.int (1 : Int32)), .unset]) rfl k) ?_
              show own_Gl _ _ _ _ _ _ _ (T56.setTop (mkF m 147 #[.val (.int p1), .val (.int p2), .val (.int p3), .val (.int p4), .val (.int p5), .val (.ref b1), .val (.int bs), .val (.int bk), .val (.ref b10), .val (.int kd), .val (.ref r_49), .val (.int (1 : Int32)), .val (.int (0 : Int32)), .val (.int (1 : Int32)), .unset] []))
              refine own_st (fun _ k => XS.aload X56.here hx rfl (hb hby at_147) rfl rfl k) ?_
              show own_Gl _ _ _ _ _ _ _ (T56.setTop (mkF m 149 #[.val (.int p1), .val (.int p2), .val (.int p3), .val (.int p4), .val (.int p5), .val (.ref b1), .val (.int bs), .val (.int bk), .val (.ref b10), .val (.int kd), .val (.ref r_49), .val (.int (1 : Int32)), .val (.int (0 : Int32)), .val (.int (1 : Int32)), .unset] [(.ref b10)]))
              refine own_st (fun _ k => XS.aload X56.here hx rfl (hb hby at_149) rfl rfl k) ?_
              show own_Gl _ _ _ _ _ _ _ (T56.setTop (mkF m 151 #[.val (.int p1), .val (.int p2), .val (.int p3), .val (.int p4), .val (.int p5), .val (.ref b1), .val (.int bs), .val (.int bk), .val (.ref b10), .val (.int kd), .val (.ref r_49), .val (.int (1 : Int32)), .val (.int (0 : Int32)), .val (.int (1 : Int32)), .unset] [(.ref b1), (.ref b10)]))
              have f61 := (P13_0.keep Kq49 nin0)
              have f62 := (P13_1.keep Kq49 nin0)
              have f63 := (((P4_0.ext E10).keep Kq13 (ninS ne_b1_b10 nin0)).keep Kq49 nin0)
              have f64 := (((P4_1.ext E10).keep Kq13 (ninS ne_b1_b10 nin0)).keep Kq49 nin0)
              obtain ⟨cq60, kq60, q60a, q60b, q60c⟩ := isOf hZ e56 f58
              obtain ⟨_, _, ⟨T60, L60, k60, n60⟩, -, X60, ⟨Lc60, hQ60, l60, y60, z60⟩, st60⟩ := X56.virtualBack hx (y := (⟨"com/example/ewig/ewig/LogRotation", "equals", "(Ljava/lang/Object;)Z"⟩ : MethodName)) (z := (⟨"com/example/ewig/ewig/LogRotation", "equals", "(Ljava/lang/Object;)Z"⟩ : MethodName)) hown (mvT hZ (hw _ (List.mem_of_getElem? (i := 13) rfl))) (mvT hZ (hw _ (List.mem_of_getElem? (i := 14) rfl))) (notFace_of_selects (args := #[]) (mvT hZ (hw _ (List.mem_of_getElem? (i := 16) rfl)))) (mvT hZ (hw _ (List.mem_of_getElem? (i := 16) rfl))) (mvT hZ (hw _ (List.mem_of_getElem? (i := 15) rfl))) (by decide) (backOf (W := 0) (own_eq_obj l Z a0 hw [] b10 b1 bs bk p1 p2 hh49 n0 Zs54 f57 f61 f62 f63 f64) hZ (hw _ (List.mem_of_getElem? (i := 17) rfl)) (hw _ (List.mem_of_getElem? (i := 2) rfl)) (by decide) (by decide)) q60a q60c (g := (mkF m 151 #[.val (.int p1), .val (.int p2), .val (.int p3), .val (.int p4), .val (.int p5), .val (.ref b1), .val (.int bs), .val (.int bk), .val (.ref b10), .val (.int kd), .val (.ref r_49), .val (.int (1 : Int32)), .val (.int (0 : Int32)), .val (.int (1 : Int32)), .unset] [(.ref b1), (.ref b10)])) rfl (by rw [hml]; rfl) (Steps.refl _) (argsL := [(.ref b1)]) (rest := []) (lenOf own_pd963338152 rfl) rfl (by show 2 * 0 + _ ≤ _; exact Nat.le_of_eq rfl) (hb hby at_151) (fun _ _ => ⟨rfl, e56, (by decide : 3 + 0 ≤ room_1.cells), (by decide : 5 + 0 ≤ room_1.slots)⟩)
              dsimp only [Pt.U, Pt.locs, Pt.cells, Pt.slots] at X60 l60 y60 z60 st60 hQ60
              subst l60 y60 z60
              obtain ⟨hh60, eh060⟩ : ∃ z, T60.heap = z := ⟨_, rfl⟩
              rw [eh060] at hQ60
              obtain ⟨rfl, Nq60, eh60⟩ := hQ60
              have N60 := Fr.app N56 Nq60
              refine own_tr st60 ?_
              have e60 : T60.heap = hh49 := eh060.trans eh60
              show own_Gl _ _ _ _ _ _ _ (T60.setTop (mkF m 154 #[.val (.int p1), .val (.int p2), .val (.int p3), .val (.int p4), .val (.int p5), .val (.ref b1), .val (.int bs), .val (.int bk), .val (.ref b10), .val (.int kd), .val (.ref r_49), .val (.int (1 : Int32)), .val (.int (0 : Int32)), .val (.int (1 : Int32)), .unset] [(.int (if bs = p1 then (if bk = p2 then (1 : Int32) else (0 : Int32)) else (0 : Int32)))]))
              refine own_st (fun _ k => XS.iload X60.here hx rfl (hb hby at_154) rfl k) ?_
              show own_Gl _ _ _ _ _ _ _ (T60.setTop (mkF m 156 #[.val (.int p1), .val (.int p2), .val (.int p3), .val (.int p4), .val (.int p5), .val (.ref b1), .val (.int bs), .val (.int bk), .val (.ref b10), .val (.int kd), .val (.ref r_49), .val (.int (1 : Int32)), .val (.int (0 : Int32)), .val (.int (1 : Int32)), .unset] [(.int (1 : Int32)), (.int (if bs = p1 then (if bk = p2 then (1 : Int32) else (0 : Int32)) else (0 : Int32)))]))
              have hd65 : (if bs = p1 then (if bk = p2 then (1 : Int32) else (0 : Int32)) else (0 : Int32)) = (1 : Int32) := (by rw [if_pos hc94, if_pos hc100])
              refine own_st (fun _ k => XS.icmpNo X60.here hx rfl (hb hby at_156) rfl (teq hd65).2 k) ?_
              show own_Gl _ _ _ _ _ _ _ (T60.setTop (mkF m 159 #[.val (.int p1), .val (.int p2), .val (.int p3), .val (.int p4), .val (.int p5), .val (.ref b1), .val (.int bs), .val (.int bk), .val (.ref b10), .val (.int kd), .val (.ref r_49), .val (.int (1 : Int32)), .val (.int (0 : Int32)), .val (.int (1 : Int32)), .unset] []))
              refine own_st (fun _ k => XS.iconst X60.here hx rfl (hb hby at_159) k) ?_
              show own_Gl _ _ _ _ _ _ _ (T60.setTop (mkF m 160 #[.val (.int p1), .val (.int p2), .val (.int p3), .val (.int p4), .val (.int p5), .val (.ref b1), .val (.int bs), .val (.int bk), .val (.ref b10), .val (.int kd), .val (.ref r_49), .val (.int (1 : Int32)), .val (.int (0 : Int32)), .val (.int (1 : Int32)), .unset] [(.int (1 : Int32))]))
              refine own_st (fun _ k => XS.goto X60.here hx rfl (pc0 := 160) (pc' := 164) rfl (hb hby at_160) (by decide) (by decide) k) ?_
              show own_Gl _ _ _ _ _ _ _ (T60.setTop (mkF m 164 #[.val (.int p1), .val (.int p2), .val (.int p3), .val (.int p4), .val (.int p5), .val (.ref b1), .val (.int bs), .val (.int bk), .val (.ref b10), .val (.int kd), .val (.ref r_49), .val (.int (1 : Int32)), .val (.int (0 : Int32)), .val (.int (1 : Int32)), .unset] [(.int (1 : Int32))]))
              refine own_st (fun _ k => XS.istore X60.here hx rfl (hb hby at_164) rfl (l' := #[.val (.int p1), .val (.int p2), .val (.int p3), .val (.int p4), .val (.int p5), .val (.ref b1), .val (.int bs), .val (.int bk), .val (.ref b10), .val (.int kd), .val (.ref r_49), .val (.int (1 : Int32)), .val (.int (0 : Int32)), .val (.int (1 : Int32)), .val (.int (1 : Int32))]) rfl k) ?_
              show own_Gl _ _ _ _ _ _ _ (T60.setTop (mkF m 166 #[.val (.int p1), .val (.int p2), .val (.int p3), .val (.int p4), .val (.int p5), .val (.ref b1), .val (.int bs), .val (.int bk), .val (.ref b10), .val (.int kd), .val (.ref r_49), .val (.int (1 : Int32)), .val (.int (0 : Int32)), .val (.int (1 : Int32)), .val (.int (1 : Int32))] []))
              refine own_st (fun _ k => XS.iload X60.here hx rfl (hb hby at_166) rfl k) ?_
              show own_Gl _ _ _ _ _ _ _ (T60.setTop (mkF m 168 #[.val (.int p1), .val (.int p2), .val (.int p3), .val (.int p4), .val (.int p5), .val (.ref b1), .val (.int bs), .val (.int bk), .val (.ref b10), .val (.int kd), .val (.ref r_49), .val (.int (1 : Int32)), .val (.int (0 : Int32)), .val (.int (1 : Int32)), .val (.int (1 : Int32))] [(.int (1 : Int32))]))
              have hd66 : ¬ ((1 : Int32) = (0 : Int32)) := (by decide)
              refine own_st (fun _ k => XS.ifNo X60.here hx rfl (hb hby at_168) rfl ((if0 _ _).trans (feq hd66).1) k) ?_
              show own_Gl _ _ _ _ _ _ _ (T60.setTop (mkF m 171 #[.val (.int p1), .val (.int p2), .val (.int p3), .val (.int p4), .val (.int p5), .val (.ref b1), .val (.int bs), .val (.int bk), .val (.ref b10), .val (.int kd), .val (.ref r_49), .val (.int (1 : Int32)), .val (.int (0 : Int32)), .val (.int (1 : Int32)), .val (.int (1 : Int32))] []))
              refine own_st (fun _ k => XS.iload X60.here hx rfl (hb hby at_171) rfl k) ?_
              show own_Gl _ _ _ _ _ _ _ (T60.setTop (mkF m 173 #[.val (.int p1), .val (.int p2), .val (.int p3), .val (.int p4), .val (.int p5), .val (.ref b1), .val (.int bs), .val (.int bk), .val (.ref b10), .val (.int kd), .val (.ref r_49), .val (.int (1 : Int32)), .val (.int (0 : Int32)), .val (.int (1 : Int32)), .val (.int (1 : Int32))] [(.int (1 : Int32))]))
              have hd67 : ¬ ((1 : Int32) = (0 : Int32)) := (by decide)
              refine own_st (fun _ k => XS.ifNo X60.here hx rfl (hb hby at_173) rfl ((if0 _ _).trans (feq hd67).1) k) ?_
              show own_Gl _ _ _ _ _ _ _ (T60.setTop (mkF m 176 #[.val (.int p1), .val (.int p2), .val (.int p3), .val (.int p4), .val (.int p5), .val (.ref b1), .val (.int bs), .val (.int bk), .val (.ref b10), .val (.int kd), .val (.ref r_49), .val (.int (1 : Int32)), .val (.int (0 : Int32)), .val (.int (1 : Int32)), .val (.int (1 : Int32))] []))
              refine own_st (fun _ k => XS.iconst X60.here hx rfl (hb hby at_176) k) ?_
              show own_Gl _ _ _ _ _ _ _ (T60.setTop (mkF m 177 #[.val (.int p1), .val (.int p2), .val (.int p3), .val (.int p4), .val (.int p5), .val (.ref b1), .val (.int bs), .val (.int bk), .val (.ref b10), .val (.int kd), .val (.ref r_49), .val (.int (1 : Int32)), .val (.int (0 : Int32)), .val (.int (1 : Int32)), .val (.int (1 : Int32))] [(.int (1 : Int32))]))
              refine own_st (fun _ k => XS.goto X60.here hx rfl (pc0 := 177) (pc' := 181) rfl (hb hby at_177) (by decide) (by decide) k) ?_
              show own_Gl _ _ _ _ _ _ _ (T60.setTop (mkF m 181 #[.val (.int p1), .val (.int p2), .val (.int p3), .val (.int p4), .val (.int p5), .val (.ref b1), .val (.int bs), .val (.int bk), .val (.ref b10), .val (.int kd), .val (.ref r_49), .val (.int (1 : Int32)), .val (.int (0 : Int32)), .val (.int (1 : Int32)), .val (.int (1 : Int32))] [(.int (1 : Int32))]))
              exact own_retN X60 hx hlk (t := .boolean) hret (by simp) (hb hby at_181) e60 ⟨rfl, N60⟩ (by decide) (by decide)
            · refine own_st (fun _ k => XS.icmpYes X49.here hx rfl (pc0 := 100) (pc' := 107) rfl (hb hby at_100) rfl (feq hc100).2 (by decide) (by decide) k) ?_
              show own_Gl _ _ _ _ _ _ _ (T49.setTop (mkF m 107 #[.val (.int p1), .val (.int p2), .val (.int p3), .val (.int p4), .val (.int p5), .val (.ref b1), .val (.int bs), .val (.int bk), .val (.ref b10), .val (.int kd), .val (.ref r_49), .unset, .unset, .unset, .unset] []))
              refine own_st (fun _ k => XS.iconst X49.here hx rfl (hb hby at_107) k) ?_
              show own_Gl _ _ _ _ _ _ _ (T49.setTop (mkF m 108 #[.val (.int p1), .val (.int p2), .val (.int p3), .val (.int p4), .val (.int p5), .val (.ref b1), .val (.int bs), .val (.int bk), .val (.ref b10), .val (.int kd), .val (.ref r_49), .unset, .unset, .unset, .unset] [(.int (0 : Int32))]))
              refine own_st (fun _ k => XS.istore X49.here hx rfl (hb hby at_108) rfl (l' := #[.val (.int p1), .val (.int p2), .val (.int p3), .val (.int p4), .val (.int p5), .val (.ref b1), .val (.int bs), .val (.int bk), .val (.ref b10), .val (.int kd), .val (.ref r_49), .val (.int (0 : Int32)), .unset, .unset, .unset]) rfl k) ?_
              show own_Gl _ _ _ _ _ _ _ (T49.setTop (mkF m 110 #[.val (.int p1), .val (.int p2), .val (.int p3), .val (.int p4), .val (.int p5), .val (.ref b1), .val (.int bs), .val (.int bk), .val (.ref b10), .val (.int kd), .val (.ref r_49), .val (.int (0 : Int32)), .unset, .unset, .unset] []))
              refine own_st (fun _ k => XS.iload X49.here hx rfl (hb hby at_110) rfl k) ?_
              show own_Gl _ _ _ _ _ _ _ (T49.setTop (mkF m 112 #[.val (.int p1), .val (.int p2), .val (.int p3), .val (.int p4), .val (.int p5), .val (.ref b1), .val (.int bs), .val (.int bk), .val (.ref b10), .val (.int kd), .val (.ref r_49), .val (.int (0 : Int32)), .unset, .unset, .unset] [(.int kd)]))
              refine own_st (fun _ k => XS.iconst X49.here hx rfl (hb hby at_112) k) ?_
              show own_Gl _ _ _ _ _ _ _ (T49.setTop (mkF m 113 #[.val (.int p1), .val (.int p2), .val (.int p3), .val (.int p4), .val (.int p5), .val (.ref b1), .val (.int bs), .val (.int bk), .val (.ref b10), .val (.int kd), .val (.ref r_49), .val (.int (0 : Int32)), .unset, .unset, .unset] [(.int (2 : Int32)), (.int kd)]))
              have hd68 : kd < (2 : Int32) := (by rw [hc74]; decide)
              refine own_st (fun _ k => XS.icmpYes X49.here hx rfl (pc0 := 113) (pc' := 125) rfl (hb hby at_113) rfl (tlt hd68).1 (by decide) (by decide) k) ?_
              show own_Gl _ _ _ _ _ _ _ (T49.setTop (mkF m 125 #[.val (.int p1), .val (.int p2), .val (.int p3), .val (.int p4), .val (.int p5), .val (.ref b1), .val (.int bs), .val (.int bk), .val (.ref b10), .val (.int kd), .val (.ref r_49), .val (.int (0 : Int32)), .unset, .unset, .unset] []))
              refine own_st (fun _ k => XS.iconst X49.here hx rfl (hb hby at_125) k) ?_
              show own_Gl _ _ _ _ _ _ _ (T49.setTop (mkF m 126 #[.val (.int p1), .val (.int p2), .val (.int p3), .val (.int p4), .val (.int p5), .val (.ref b1), .val (.int bs), .val (.int bk), .val (.ref b10), .val (.int kd), .val (.ref r_49), .val (.int (0 : Int32)), .unset, .unset, .unset] [(.int (0 : Int32))]))
              refine own_st (fun _ k => XS.istore X49.here hx rfl (hb hby at_126) rfl (l' := #[.val (.int p1), .val (.int p2), .val (.int p3), .val (.int p4), .val (.int p5), .val (.ref b1), .val (.int bs), .val (.int bk), .val (.ref b10), .val (.int kd), .val (.ref r_49), .val (.int (0 : Int32)), .val (.int (0 : Int32)), .unset, .unset]) rfl k) ?_
              show own_Gl _ _ _ _ _ _ _ (T49.setTop (mkF m 128 #[.val (.int p1), .val (.int p2), .val (.int p3), .val (.int p4), .val (.int p5), .val (.ref b1), .val (.int bs), .val (.int bk), .val (.ref b10), .val (.int kd), .val (.ref r_49), .val (.int (0 : Int32)), .val (.int (0 : Int32)), .unset, .unset] []))
              refine own_st (fun _ k => XS.aload X49.here hx rfl (hb hby at_128) rfl rfl k) ?_
              show own_Gl _ _ _ _ _ _ _ (T49.setTop (mkF m 130 #[.val (.int p1), .val (.int p2), .val (.int p3), .val (.int p4), .val (.int p5), .val (.ref b1), .val (.int bs), .val (.int bk), .val (.ref b10), .val (.int kd), .val (.ref r_49), .val (.int (0 : Int32)), .val (.int (0 : Int32)), .unset, .unset] [(.ref b1)]))
              refine own_st (fun _ k => XS.aload X49.here hx rfl (hb hby at_130) rfl rfl k) ?_
              show own_Gl _ _ _ _ _ _ _ (T49.setTop (mkF m 132 #[.val (.int p1), .val (.int p2), .val (.int p3), .val (.int p4), .val (.int p5), .val (.ref b1), .val (.int bs), .val (.int bk), .val (.ref b10), .val (.int kd), .val (.ref r_49), .val (.int (0 : Int32)), .val (.int (0 : Int32)), .unset, .unset] [(.ref r_49), (.ref b1)]))
              have f70 := (f51.keep Kq49)
              have f71 := (f52.keep Kq49)
              obtain ⟨cq69, kq69, q69a, q69b, q69c⟩ := isOf hZ eh049 f70
              obtain ⟨_, _, ⟨T69, L69, k69, n69⟩, -, X69, ⟨Lc69, hQ69, l69, y69, z69⟩, st69⟩ := X49.virtualBack hx (y := (⟨"com/example/ewig/ewig/LogRotation", "equals", "(Ljava/lang/Object;)Z"⟩ : MethodName)) (z := (⟨"com/example/ewig/ewig/LogRotation", "equals", "(Ljava/lang/Object;)Z"⟩ : MethodName)) hown (mvT hZ (hw _ (List.mem_of_getElem? (i := 13) rfl))) (mvT hZ (hw _ (List.mem_of_getElem? (i := 14) rfl))) (notFace_of_selects (args := #[]) (mvT hZ (hw _ (List.mem_of_getElem? (i := 16) rfl)))) (mvT hZ (hw _ (List.mem_of_getElem? (i := 16) rfl))) (mvT hZ (hw _ (List.mem_of_getElem? (i := 15) rfl))) (by decide) (backOf (W := 0) (own_eq_int l Z a0 hw [] b1 r_49 hh49 n0 Zs54 P49_0) hZ (hw _ (List.mem_of_getElem? (i := 17) rfl)) (hw _ (List.mem_of_getElem? (i := 2) rfl)) (by decide) (by decide)) q69a q69c (g := (mkF m 132 #[.val (.int p1), .val (.int p2), .val (.int p3), .val (.int p4), .val (.int p5), .val (.ref b1), .val (.int bs), .val (.int bk), .val (.ref b10), .val (.int kd), .val (.ref r_49), .val (.int (0 : Int32)), .val (.int (0 : Int32)), .unset, .unset] [(.ref r_49), (.ref b1)])) rfl (by rw [hml]; rfl) (Steps.refl _) (argsL := [(.ref r_49)]) (rest := []) (lenOf own_pd963338152 rfl) rfl (by show 2 * 0 + _ ≤ _; exact Nat.le_of_eq rfl) (hb hby at_132) (fun _ _ => ⟨rfl, eh049, (by decide : 3 + 0 ≤ room_1.cells), (by decide : 5 + 0 ≤ room_1.slots)⟩)
              dsimp only [Pt.U, Pt.locs, Pt.cells, Pt.slots] at X69 l69 y69 z69 st69 hQ69
              subst l69 y69 z69
              obtain ⟨hh69, eh069⟩ : ∃ z, T69.heap = z := ⟨_, rfl⟩
              rw [eh069] at hQ69
              obtain ⟨rfl, Nq69, eh69⟩ := hQ69
              have N69 := Fr.app N49 Nq69
              refine own_tr st69 ?_
              have e69 : T69.heap = hh49 := eh069.trans eh69
              show own_Gl _ _ _ _ _ _ _ (T69.setTop (mkF m 135 #[.val (.int p1), .val (.int p2), .val (.int p3), .val (.int p4), .val (.int p5), .val (.ref b1), .val (.int bs), .val (.int bk), .val (.ref b10), .val (.int kd), .val (.ref r_49), .val (.int (0 : Int32)), .val (.int (0 : Int32)), .unset, .unset] [(.int (0 : Int32))]))
              refine own_st (fun _ k => XS.iload X69.here hx rfl (hb hby at_135) rfl k) ?_
              show own_Gl _ _ _ _ _ _ _ (T69.setTop (mkF m 137 #[.val (.int p1), .val (.int p2), .val (.int p3), .val (.int p4), .val (.int p5), .val (.ref b1), .val (.int bs), .val (.int bk), .val (.ref b10), .val (.int kd), .val (.ref r_49), .val (.int (0 : Int32)), .val (.int (0 : Int32)), .unset, .unset] [(.int (0 : Int32)), (.int (0 : Int32))]))
              have hd72 : (0 : Int32) = (0 : Int32) := (by decide)
              refine own_st (fun _ k => XS.icmpNo X69.here hx rfl (hb hby at_137) rfl (teq hd72).2 k) ?_
              show own_Gl _ _ _ _ _ _ _ (T69.setTop (mkF m 140 #[.val (.int p1), .val (.int p2), .val (.int p3), .val (.int p4), .val (.int p5), .val (.ref b1), .val (.int bs), .val (.int bk), .val (.ref b10), .val (.int kd), .val (.ref r_49), .val (.int (0 : Int32)), .val (.int (0 : Int32)), .unset, .unset] []))
              refine own_st (fun _ k => XS.iconst X69.here hx rfl (hb hby at_140) k) ?_
              show own_Gl _ _ _ _ _ _ _ (T69.setTop (mkF m 141 #[.val (.int p1), .val (.int p2), .val (.int p3), .val (.int p4), .val (.int p5), .val (.ref b1), .val (.int bs), .val (.int bk), .val (.ref b10), .val (.int kd), .val (.ref r_49), .val (.int (0 : Int32)), .val (.int (0 : Int32)), .unset, .unset] [(.int (1 : Int32))]))
              refine own_st (fun _ k => XS.goto X69.here hx rfl (pc0 := 141) (pc' := 145) rfl (hb hby at_141) (by decide) (by decide) k) ?_
              show own_Gl _ _ _ _ _ _ _ (T69.setTop (mkF m 145 #[.val (.int p1), .val (.int p2), .val (.int p3), .val (.int p4), .val (.int p5), .val (.ref b1), .val (.int bs), .val (.int bk), .val (.ref b10), .val (.int kd), .val (.ref r_49), .val (.int (0 : Int32)), .val (.int (0 : Int32)), .unset, .unset] [(.int (1 : Int32))]))
              refine own_st (fun _ k => XS.istore X69.here hx rfl (hb hby at_145) rfl (l' := #[.val (.int p1), .val (.int p2), .val (.int p3), .val (.int p4), .val (.int p5), .val (.ref b1), .val (.int bs), .val (.int bk), .val (.ref b10), .val (.int kd), .val (.ref r_49), .val (.int (0 : Int32)), .val (.int (0 : Int32)), .val (.int (1 : Int32)), .unset]) rfl k) ?_
              show own_Gl _ _ _ _ _ _ _ (T69.setTop (mkF m 147 #[.val (.int p1), .val (.int p2), .val (.int p3), .val (.int p4), .val (.int p5), .val (.ref b1), .val (.int bs), .val (.int bk), .val (.ref b10), .val (.int kd), .val (.ref r_49), .val (.int (0 : Int32)), .val (.int (0 : Int32)), .val (.int (1 : Int32)), .unset] []))
              refine own_st (fun _ k => XS.aload X69.here hx rfl (hb hby at_147) rfl rfl k) ?_
              show own_Gl _ _ _ _ _ _ _ (T69.setTop (mkF m 149 #[.val (.int p1), .val (.int p2), .val (.int p3), .val (.int p4), .val (.int p5), .val (.ref b1), .val (.int bs), .val (.int bk), .val (.ref b10), .val (.int kd), .val (.ref r_49), .val (.int (0 : Int32)), .val (.int (0 : Int32)), .val (.int (1 : Int32)), .unset] [(.ref b10)]))
              refine own_st (fun _ k => XS.aload X69.here hx rfl (hb hby at_149) rfl rfl k) ?_
              show own_Gl _ _ _ _ _ _ _ (T69.setTop (mkF m 151 #[.val (.int p1), .val (.int p2), .val (.int p3), .val (.int p4), .val (.int p5), .val (.ref b1), .val (.int bs), .val (.int bk), .val (.ref b10), .val (.int kd), .val (.ref r_49), .val (.int (0 : Int32)), .val (.int (0 : Int32)), .val (.int (1 : Int32)), .unset] [(.ref b1), (.ref b10)]))
              have f74 := (P13_0.keep Kq49 nin0)
              have f75 := (P13_1.keep Kq49 nin0)
              have f76 := (((P4_0.ext E10).keep Kq13 (ninS ne_b1_b10 nin0)).keep Kq49 nin0)
              have f77 := (((P4_1.ext E10).keep Kq13 (ninS ne_b1_b10 nin0)).keep Kq49 nin0)
              obtain ⟨cq73, kq73, q73a, q73b, q73c⟩ := isOf hZ e69 f71
              obtain ⟨_, _, ⟨T73, L73, k73, n73⟩, -, X73, ⟨Lc73, hQ73, l73, y73, z73⟩, st73⟩ := X69.virtualBack hx (y := (⟨"com/example/ewig/ewig/LogRotation", "equals", "(Ljava/lang/Object;)Z"⟩ : MethodName)) (z := (⟨"com/example/ewig/ewig/LogRotation", "equals", "(Ljava/lang/Object;)Z"⟩ : MethodName)) hown (mvT hZ (hw _ (List.mem_of_getElem? (i := 13) rfl))) (mvT hZ (hw _ (List.mem_of_getElem? (i := 14) rfl))) (notFace_of_selects (args := #[]) (mvT hZ (hw _ (List.mem_of_getElem? (i := 16) rfl)))) (mvT hZ (hw _ (List.mem_of_getElem? (i := 16) rfl))) (mvT hZ (hw _ (List.mem_of_getElem? (i := 15) rfl))) (by decide) (backOf (W := 0) (own_eq_obj l Z a0 hw [] b10 b1 bs bk p1 p2 hh49 n0 Zs54 f70 f74 f75 f76 f77) hZ (hw _ (List.mem_of_getElem? (i := 17) rfl)) (hw _ (List.mem_of_getElem? (i := 2) rfl)) (by decide) (by decide)) q73a q73c (g := (mkF m 151 #[.val (.int p1), .val (.int p2), .val (.int p3), .val (.int p4), .val (.int p5), .val (.ref b1), .val (.int bs), .val (.int bk), .val (.ref b10), .val (.int kd), .val (.ref r_49), .val (.int (0 : Int32)), .val (.int (0 : Int32)), .val (.int (1 : Int32)), .unset] [(.ref b1), (.ref b10)])) rfl (by rw [hml]; rfl) (Steps.refl _) (argsL := [(.ref b1)]) (rest := []) (lenOf own_pd963338152 rfl) rfl (by show 2 * 0 + _ ≤ _; exact Nat.le_of_eq rfl) (hb hby at_151) (fun _ _ => ⟨rfl, e69, (by decide : 3 + 0 ≤ room_1.cells), (by decide : 5 + 0 ≤ room_1.slots)⟩)
              dsimp only [Pt.U, Pt.locs, Pt.cells, Pt.slots] at X73 l73 y73 z73 st73 hQ73
              subst l73 y73 z73
              obtain ⟨hh73, eh073⟩ : ∃ z, T73.heap = z := ⟨_, rfl⟩
              rw [eh073] at hQ73
              obtain ⟨rfl, Nq73, eh73⟩ := hQ73
              have N73 := Fr.app N69 Nq73
              refine own_tr st73 ?_
              have e73 : T73.heap = hh49 := eh073.trans eh73
              show own_Gl _ _ _ _ _ _ _ (T73.setTop (mkF m 154 #[.val (.int p1), .val (.int p2), .val (.int p3), .val (.int p4), .val (.int p5), .val (.ref b1), .val (.int bs), .val (.int bk), .val (.ref b10), .val (.int kd), .val (.ref r_49), .val (.int (0 : Int32)), .val (.int (0 : Int32)), .val (.int (1 : Int32)), .unset] [(.int (if bs = p1 then (if bk = p2 then (1 : Int32) else (0 : Int32)) else (0 : Int32)))]))
              refine own_st (fun _ k => XS.iload X73.here hx rfl (hb hby at_154) rfl k) ?_
              show own_Gl _ _ _ _ _ _ _ (T73.setTop (mkF m 156 #[.val (.int p1), .val (.int p2), .val (.int p3), .val (.int p4), .val (.int p5), .val (.ref b1), .val (.int bs), .val (.int bk), .val (.ref b10), .val (.int kd), .val (.ref r_49), .val (.int (0 : Int32)), .val (.int (0 : Int32)), .val (.int (1 : Int32)), .unset] [(.int (0 : Int32)), (.int (if bs = p1 then (if bk = p2 then (1 : Int32) else (0 : Int32)) else (0 : Int32)))]))
              have hd78 : (if bs = p1 then (if bk = p2 then (1 : Int32) else (0 : Int32)) else (0 : Int32)) = (0 : Int32) := (by rw [if_pos hc94, if_neg hc100])
              refine own_st (fun _ k => XS.icmpNo X73.here hx rfl (hb hby at_156) rfl (teq hd78).2 k) ?_
              show own_Gl _ _ _ _ _ _ _ (T73.setTop (mkF m 159 #[.val (.int p1), .val (.int p2), .val (.int p3), .val (.int p4), .val (.int p5), .val (.ref b1), .val (.int bs), .val (.int bk), .val (.ref b10), .val (.int kd), .val (.ref r_49), .val (.int (0 : Int32)), .val (.int (0 : Int32)), .val (.int (1 : Int32)), .unset] []))
              refine own_st (fun _ k => XS.iconst X73.here hx rfl (hb hby at_159) k) ?_
              show own_Gl _ _ _ _ _ _ _ (T73.setTop (mkF m 160 #[.val (.int p1), .val (.int p2), .val (.int p3), .val (.int p4), .val (.int p5), .val (.ref b1), .val (.int bs), .val (.int bk), .val (.ref b10), .val (.int kd), .val (.ref r_49), .val (.int (0 : Int32)), .val (.int (0 : Int32)), .val (.int (1 : Int32)), .unset] [(.int (1 : Int32))]))
              refine own_st (fun _ k => XS.goto X73.here hx rfl (pc0 := 160) (pc' := 164) rfl (hb hby at_160) (by decide) (by decide) k) ?_
              show own_Gl _ _ _ _ _ _ _ (T73.setTop (mkF m 164 #[.val (.int p1), .val (.int p2), .val (.int p3), .val (.int p4), .val (.int p5), .val (.ref b1), .val (.int bs), .val (.int bk), .val (.ref b10), .val (.int kd), .val (.ref r_49), .val (.int (0 : Int32)), .val (.int (0 : Int32)), .val (.int (1 : Int32)), .unset] [(.int (1 : Int32))]))
              refine own_st (fun _ k => XS.istore X73.here hx rfl (hb hby at_164) rfl (l' := #[.val (.int p1), .val (.int p2), .val (.int p3), .val (.int p4), .val (.int p5), .val (.ref b1), .val (.int bs), .val (.int bk), .val (.ref b10), .val (.int kd), .val (.ref r_49), .val (.int (0 : Int32)), .val (.int (0 : Int32)), .val (.int (1 : Int32)), .val (.int (1 : Int32))]) rfl k) ?_
              show own_Gl _ _ _ _ _ _ _ (T73.setTop (mkF m 166 #[.val (.int p1), .val (.int p2), .val (.int p3), .val (.int p4), .val (.int p5), .val (.ref b1), .val (.int bs), .val (.int bk), .val (.ref b10), .val (.int kd), .val (.ref r_49), .val (.int (0 : Int32)), .val (.int (0 : Int32)), .val (.int (1 : Int32)), .val (.int (1 : Int32))] []))
              refine own_st (fun _ k => XS.iload X73.here hx rfl (hb hby at_166) rfl k) ?_
              show own_Gl _ _ _ _ _ _ _ (T73.setTop (mkF m 168 #[.val (.int p1), .val (.int p2), .val (.int p3), .val (.int p4), .val (.int p5), .val (.ref b1), .val (.int bs), .val (.int bk), .val (.ref b10), .val (.int kd), .val (.ref r_49), .val (.int (0 : Int32)), .val (.int (0 : Int32)), .val (.int (1 : Int32)), .val (.int (1 : Int32))] [(.int (1 : Int32))]))
              have hd79 : ¬ ((1 : Int32) = (0 : Int32)) := (by decide)
              refine own_st (fun _ k => XS.ifNo X73.here hx rfl (hb hby at_168) rfl ((if0 _ _).trans (feq hd79).1) k) ?_
              show own_Gl _ _ _ _ _ _ _ (T73.setTop (mkF m 171 #[.val (.int p1), .val (.int p2), .val (.int p3), .val (.int p4), .val (.int p5), .val (.ref b1), .val (.int bs), .val (.int bk), .val (.ref b10), .val (.int kd), .val (.ref r_49), .val (.int (0 : Int32)), .val (.int (0 : Int32)), .val (.int (1 : Int32)), .val (.int (1 : Int32))] []))
              refine own_st (fun _ k => XS.iload X73.here hx rfl (hb hby at_171) rfl k) ?_
              show own_Gl _ _ _ _ _ _ _ (T73.setTop (mkF m 173 #[.val (.int p1), .val (.int p2), .val (.int p3), .val (.int p4), .val (.int p5), .val (.ref b1), .val (.int bs), .val (.int bk), .val (.ref b10), .val (.int kd), .val (.ref r_49), .val (.int (0 : Int32)), .val (.int (0 : Int32)), .val (.int (1 : Int32)), .val (.int (1 : Int32))] [(.int (1 : Int32))]))
              have hd80 : ¬ ((1 : Int32) = (0 : Int32)) := (by decide)
              refine own_st (fun _ k => XS.ifNo X73.here hx rfl (hb hby at_173) rfl ((if0 _ _).trans (feq hd80).1) k) ?_
              show own_Gl _ _ _ _ _ _ _ (T73.setTop (mkF m 176 #[.val (.int p1), .val (.int p2), .val (.int p3), .val (.int p4), .val (.int p5), .val (.ref b1), .val (.int bs), .val (.int bk), .val (.ref b10), .val (.int kd), .val (.ref r_49), .val (.int (0 : Int32)), .val (.int (0 : Int32)), .val (.int (1 : Int32)), .val (.int (1 : Int32))] []))
              refine own_st (fun _ k => XS.iconst X73.here hx rfl (hb hby at_176) k) ?_
              show own_Gl _ _ _ _ _ _ _ (T73.setTop (mkF m 177 #[.val (.int p1), .val (.int p2), .val (.int p3), .val (.int p4), .val (.int p5), .val (.ref b1), .val (.int bs), .val (.int bk), .val (.ref b10), .val (.int kd), .val (.ref r_49), .val (.int (0 : Int32)), .val (.int (0 : Int32)), .val (.int (1 : Int32)), .val (.int (1 : Int32))] [(.int (1 : Int32))]))
              refine own_st (fun _ k => XS.goto X73.here hx rfl (pc0 := 177) (pc' := 181) rfl (hb hby at_177) (by decide) (by decide) k) ?_
              show own_Gl _ _ _ _ _ _ _ (T73.setTop (mkF m 181 #[.val (.int p1), .val (.int p2), .val (.int p3), .val (.int p4), .val (.int p5), .val (.ref b1), .val (.int bs), .val (.int bk), .val (.ref b10), .val (.int kd), .val (.ref r_49), .val (.int (0 : Int32)), .val (.int (0 : Int32)), .val (.int (1 : Int32)), .val (.int (1 : Int32))] [(.int (1 : Int32))]))
              exact own_retN X73 hx hlk (t := .boolean) hret (by simp) (hb hby at_181) e73 ⟨rfl, N73⟩ (by decide) (by decide)
          · refine own_st (fun _ k => XS.icmpYes X49.here hx rfl (pc0 := 94) (pc' := 107) rfl (hb hby at_94) rfl (feq hc94).2 (by decide) (by decide) k) ?_
            show own_Gl _ _ _ _ _ _ _ (T49.setTop (mkF m 107 #[.val (.int p1), .val (.int p2), .val (.int p3), .val (.int p4), .val (.int p5), .val (.ref b1), .val (.int bs), .val (.int bk), .val (.ref b10), .val (.int kd), .val (.ref r_49), .unset, .unset, .unset, .unset] []))
            refine own_st (fun _ k => XS.iconst X49.here hx rfl (hb hby at_107) k) ?_
            show own_Gl _ _ _ _ _ _ _ (T49.setTop (mkF m 108 #[.val (.int p1), .val (.int p2), .val (.int p3), .val (.int p4), .val (.int p5), .val (.ref b1), .val (.int bs), .val (.int bk), .val (.ref b10), .val (.int kd), .val (.ref r_49), .unset, .unset, .unset, .unset] [(.int (0 : Int32))]))
            refine own_st (fun _ k => XS.istore X49.here hx rfl (hb hby at_108) rfl (l' := #[.val (.int p1), .val (.int p2), .val (.int p3), .val (.int p4), .val (.int p5), .val (.ref b1), .val (.int bs), .val (.int bk), .val (.ref b10), .val (.int kd), .val (.ref r_49), .val (.int (0 : Int32)), .unset, .unset, .unset]) rfl k) ?_
            show own_Gl _ _ _ _ _ _ _ (T49.setTop (mkF m 110 #[.val (.int p1), .val (.int p2), .val (.int p3), .val (.int p4), .val (.int p5), .val (.ref b1), .val (.int bs), .val (.int bk), .val (.ref b10), .val (.int kd), .val (.ref r_49), .val (.int (0 : Int32)), .unset, .unset, .unset] []))
            refine own_st (fun _ k => XS.iload X49.here hx rfl (hb hby at_110) rfl k) ?_
            show own_Gl _ _ _ _ _ _ _ (T49.setTop (mkF m 112 #[.val (.int p1), .val (.int p2), .val (.int p3), .val (.int p4), .val (.int p5), .val (.ref b1), .val (.int bs), .val (.int bk), .val (.ref b10), .val (.int kd), .val (.ref r_49), .val (.int (0 : Int32)), .unset, .unset, .unset] [(.int kd)]))
            refine own_st (fun _ k => XS.iconst X49.here hx rfl (hb hby at_112) k) ?_
            show own_Gl _ _ _ _ _ _ _ (T49.setTop (mkF m 113 #[.val (.int p1), .val (.int p2), .val (.int p3), .val (.int p4), .val (.int p5), .val (.ref b1), .val (.int bs), .val (.int bk), .val (.ref b10), .val (.int kd), .val (.ref r_49), .val (.int (0 : Int32)), .unset, .unset, .unset] [(.int (2 : Int32)), (.int kd)]))
            have hd81 : kd < (2 : Int32) := (by rw [hc74]; decide)
            refine own_st (fun _ k => XS.icmpYes X49.here hx rfl (pc0 := 113) (pc' := 125) rfl (hb hby at_113) rfl (tlt hd81).1 (by decide) (by decide) k) ?_
            show own_Gl _ _ _ _ _ _ _ (T49.setTop (mkF m 125 #[.val (.int p1), .val (.int p2), .val (.int p3), .val (.int p4), .val (.int p5), .val (.ref b1), .val (.int bs), .val (.int bk), .val (.ref b10), .val (.int kd), .val (.ref r_49), .val (.int (0 : Int32)), .unset, .unset, .unset] []))
            refine own_st (fun _ k => XS.iconst X49.here hx rfl (hb hby at_125) k) ?_
            show own_Gl _ _ _ _ _ _ _ (T49.setTop (mkF m 126 #[.val (.int p1), .val (.int p2), .val (.int p3), .val (.int p4), .val (.int p5), .val (.ref b1), .val (.int bs), .val (.int bk), .val (.ref b10), .val (.int kd), .val (.ref r_49), .val (.int (0 : Int32)), .unset, .unset, .unset] [(.int (0 : Int32))]))
            refine own_st (fun _ k => XS.istore X49.here hx rfl (hb hby at_126) rfl (l' := #[.val (.int p1), .val (.int p2), .val (.int p3), .val (.int p4), .val (.int p5), .val (.ref b1), .val (.int bs), .val (.int bk), .val (.ref b10), .val (.int kd), .val (.ref r_49), .val (.int (0 : Int32)), .val (.int (0 : Int32)), .unset, .unset]) rfl k) ?_
            show own_Gl _ _ _ _ _ _ _ (T49.setTop (mkF m 128 #[.val (.int p1), .val (.int p2), .val (.int p3), .val (.int p4), .val (.int p5), .val (.ref b1), .val (.int bs), .val (.int bk), .val (.ref b10), .val (.int kd), .val (.ref r_49), .val (.int (0 : Int32)), .val (.int (0 : Int32)), .unset, .unset] []))
            refine own_st (fun _ k => XS.aload X49.here hx rfl (hb hby at_128) rfl rfl k) ?_
            show own_Gl _ _ _ _ _ _ _ (T49.setTop (mkF m 130 #[.val (.int p1), .val (.int p2), .val (.int p3), .val (.int p4), .val (.int p5), .val (.ref b1), .val (.int bs), .val (.int bk), .val (.ref b10), .val (.int kd), .val (.ref r_49), .val (.int (0 : Int32)), .val (.int (0 : Int32)), .unset, .unset] [(.ref b1)]))
            refine own_st (fun _ k => XS.aload X49.here hx rfl (hb hby at_130) rfl rfl k) ?_
            show own_Gl _ _ _ _ _ _ _ (T49.setTop (mkF m 132 #[.val (.int p1), .val (.int p2), .val (.int p3), .val (.int p4), .val (.int p5), .val (.ref b1), .val (.int bs), .val (.int bk), .val (.ref b10), .val (.int kd), .val (.ref r_49), .val (.int (0 : Int32)), .val (.int (0 : Int32)), .unset, .unset] [(.ref r_49), (.ref b1)]))
            have f83 := (f51.keep Kq49)
            have f84 := (f52.keep Kq49)
            obtain ⟨cq82, kq82, q82a, q82b, q82c⟩ := isOf hZ eh049 f83
            obtain ⟨_, _, ⟨T82, L82, k82, n82⟩, -, X82, ⟨Lc82, hQ82, l82, y82, z82⟩, st82⟩ := X49.virtualBack hx (y := (⟨"com/example/ewig/ewig/LogRotation", "equals", "(Ljava/lang/Object;)Z"⟩ : MethodName)) (z := (⟨"com/example/ewig/ewig/LogRotation", "equals", "(Ljava/lang/Object;)Z"⟩ : MethodName)) hown (mvT hZ (hw _ (List.mem_of_getElem? (i := 13) rfl))) (mvT hZ (hw _ (List.mem_of_getElem? (i := 14) rfl))) (notFace_of_selects (args := #[]) (mvT hZ (hw _ (List.mem_of_getElem? (i := 16) rfl)))) (mvT hZ (hw _ (List.mem_of_getElem? (i := 16) rfl))) (mvT hZ (hw _ (List.mem_of_getElem? (i := 15) rfl))) (by decide) (backOf (W := 0) (own_eq_int l Z a0 hw [] b1 r_49 hh49 n0 Zs54 P49_0) hZ (hw _ (List.mem_of_getElem? (i := 17) rfl)) (hw _ (List.mem_of_getElem? (i := 2) rfl)) (by decide) (by decide)) q82a q82c (g := (mkF m 132 #[.val (.int p1), .val (.int p2), .val (.int p3), .val (.int p4), .val (.int p5), .val (.ref b1), .val (.int bs), .val (.int bk), .val (.ref b10), .val (.int kd), .val (.ref r_49), .val (.int (0 : Int32)), .val (.int (0 : Int32)), .unset, .unset] [(.ref r_49), (.ref b1)])) rfl (by rw [hml]; rfl) (Steps.refl _) (argsL := [(.ref r_49)]) (rest := []) (lenOf own_pd963338152 rfl) rfl (by show 2 * 0 + _ ≤ _; exact Nat.le_of_eq rfl) (hb hby at_132) (fun _ _ => ⟨rfl, eh049, (by decide : 3 + 0 ≤ room_1.cells), (by decide : 5 + 0 ≤ room_1.slots)⟩)
            dsimp only [Pt.U, Pt.locs, Pt.cells, Pt.slots] at X82 l82 y82 z82 st82 hQ82
            subst l82 y82 z82
            obtain ⟨hh82, eh082⟩ : ∃ z, T82.heap = z := ⟨_, rfl⟩
            rw [eh082] at hQ82
            obtain ⟨rfl, Nq82, eh82⟩ := hQ82
            have N82 := Fr.app N49 Nq82
            refine own_tr st82 ?_
            have e82 : T82.heap = hh49 := eh082.trans eh82
            show own_Gl _ _ _ _ _ _ _ (T82.setTop (mkF m 135 #[.val (.int p1), .val (.int p2), .val (.int p3), .val (.int p4), .val (.int p5), .val (.ref b1), .val (.int bs), .val (.int bk), .val (.ref b10), .val (.int kd), .val (.ref r_49), .val (.int (0 : Int32)), .val (.int (0 : Int32)), .unset, .unset] [(.int (0 : Int32))]))
            refine own_st (fun _ k => XS.iload X82.here hx rfl (hb hby at_135) rfl k) ?_
            show own_Gl _ _ _ _ _ _ _ (T82.setTop (mkF m 137 #[.val (.int p1), .val (.int p2), .val (.int p3), .val (.int p4), .val (.int p5), .val (.ref b1), .val (.int bs), .val (.int bk), .val (.ref b10), .val (.int kd), .val (.ref r_49), .val (.int (0 : Int32)), .val (.int (0 : Int32)), .unset, .unset] [(.int (0 : Int32)), (.int (0 : Int32))]))
            have hd85 : (0 : Int32) = (0 : Int32) := (by decide)
            refine own_st (fun _ k => XS.icmpNo X82.here hx rfl (hb hby at_137) rfl (teq hd85).2 k) ?_
            show own_Gl _ _ _ _ _ _ _ (T82.setTop (mkF m 140 #[.val (.int p1), .val (.int p2), .val (.int p3), .val (.int p4), .val (.int p5), .val (.ref b1), .val (.int bs), .val (.int bk), .val (.ref b10), .val (.int kd), .val (.ref r_49), .val (.int (0 : Int32)), .val (.int (0 : Int32)), .unset, .unset] []))
            refine own_st (fun _ k => XS.iconst X82.here hx rfl (hb hby at_140) k) ?_
            show own_Gl _ _ _ _ _ _ _ (T82.setTop (mkF m 141 #[.val (.int p1), .val (.int p2), .val (.int p3), .val (.int p4), .val (.int p5), .val (.ref b1), .val (.int bs), .val (.int bk), .val (.ref b10), .val (.int kd), .val (.ref r_49), .val (.int (0 : Int32)), .val (.int (0 : Int32)), .unset, .unset] [(.int (1 : Int32))]))
            refine own_st (fun _ k => XS.goto X82.here hx rfl (pc0 := 141) (pc' := 145) rfl (hb hby at_141) (by decide) (by decide) k) ?_
            show own_Gl _ _ _ _ _ _ _ (T82.setTop (mkF m 145 #[.val (.int p1), .val (.int p2), .val (.int p3), .val (.int p4), .val (.int p5), .val (.ref b1), .val (.int bs), .val (.int bk), .val (.ref b10), .val (.int kd), .val (.ref r_49), .val (.int (0 : Int32)), .val (.int (0 : Int32)), .unset, .unset] [(.int (1 : Int32))]))
            refine own_st (fun _ k => XS.istore X82.here hx rfl (hb hby at_145) rfl (l' := #[.val (.int p1), .val (.int p2), .val (.int p3), .val (.int p4), .val (.int p5), .val (.ref b1), .val (.int bs), .val (.int bk), .val (.ref b10), .val (.int kd), .val (.ref r_49), .val (.int (0 : Int32)), .val (.int (0 : Int32)), .val (.int (1 : Int32)), .unset]) rfl k) ?_
            show own_Gl _ _ _ _ _ _ _ (T82.setTop (mkF m 147 #[.val (.int p1), .val (.int p2), .val (.int p3), .val (.int p4), .val (.int p5), .val (.ref b1), .val (.int bs), .val (.int bk), .val (.ref b10), .val (.int kd), .val (.ref r_49), .val (.int (0 : Int32)), .val (.int (0 : Int32)), .val (.int (1 : Int32)), .unset] []))
            refine own_st (fun _ k => XS.aload X82.here hx rfl (hb hby at_147) rfl rfl k) ?_
            show own_Gl _ _ _ _ _ _ _ (T82.setTop (mkF m 149 #[.val (.int p1), .val (.int p2), .val (.int p3), .val (.int p4), .val (.int p5), .val (.ref b1), .val (.int bs), .val (.int bk), .val (.ref b10), .val (.int kd), .val (.ref r_49), .val (.int (0 : Int32)), .val (.int (0 : Int32)), .val (.int (1 : Int32)), .unset] [(.ref b10)]))
            refine own_st (fun _ k => XS.aload X82.here hx rfl (hb hby at_149) rfl rfl k) ?_
            show own_Gl _ _ _ _ _ _ _ (T82.setTop (mkF m 151 #[.val (.int p1), .val (.int p2), .val (.int p3), .val (.int p4), .val (.int p5), .val (.ref b1), .val (.int bs), .val (.int bk), .val (.ref b10), .val (.int kd), .val (.ref r_49), .val (.int (0 : Int32)), .val (.int (0 : Int32)), .val (.int (1 : Int32)), .unset] [(.ref b1), (.ref b10)]))
            have f87 := (P13_0.keep Kq49 nin0)
            have f88 := (P13_1.keep Kq49 nin0)
            have f89 := (((P4_0.ext E10).keep Kq13 (ninS ne_b1_b10 nin0)).keep Kq49 nin0)
            have f90 := (((P4_1.ext E10).keep Kq13 (ninS ne_b1_b10 nin0)).keep Kq49 nin0)
            obtain ⟨cq86, kq86, q86a, q86b, q86c⟩ := isOf hZ e82 f84
            obtain ⟨_, _, ⟨T86, L86, k86, n86⟩, -, X86, ⟨Lc86, hQ86, l86, y86, z86⟩, st86⟩ := X82.virtualBack hx (y := (⟨"com/example/ewig/ewig/LogRotation", "equals", "(Ljava/lang/Object;)Z"⟩ : MethodName)) (z := (⟨"com/example/ewig/ewig/LogRotation", "equals", "(Ljava/lang/Object;)Z"⟩ : MethodName)) hown (mvT hZ (hw _ (List.mem_of_getElem? (i := 13) rfl))) (mvT hZ (hw _ (List.mem_of_getElem? (i := 14) rfl))) (notFace_of_selects (args := #[]) (mvT hZ (hw _ (List.mem_of_getElem? (i := 16) rfl)))) (mvT hZ (hw _ (List.mem_of_getElem? (i := 16) rfl))) (mvT hZ (hw _ (List.mem_of_getElem? (i := 15) rfl))) (by decide) (backOf (W := 0) (own_eq_obj l Z a0 hw [] b10 b1 bs bk p1 p2 hh49 n0 Zs54 f83 f87 f88 f89 f90) hZ (hw _ (List.mem_of_getElem? (i := 17) rfl)) (hw _ (List.mem_of_getElem? (i := 2) rfl)) (by decide) (by decide)) q86a q86c (g := (mkF m 151 #[.val (.int p1), .val (.int p2), .val (.int p3), .val (.int p4), .val (.int p5), .val (.ref b1), .val (.int bs), .val (.int bk), .val (.ref b10), .val (.int kd), .val (.ref r_49), .val (.int (0 : Int32)), .val (.int (0 : Int32)), .val (.int (1 : Int32)), .unset] [(.ref b1), (.ref b10)])) rfl (by rw [hml]; rfl) (Steps.refl _) (argsL := [(.ref b1)]) (rest := []) (lenOf own_pd963338152 rfl) rfl (by show 2 * 0 + _ ≤ _; exact Nat.le_of_eq rfl) (hb hby at_151) (fun _ _ => ⟨rfl, e82, (by decide : 3 + 0 ≤ room_1.cells), (by decide : 5 + 0 ≤ room_1.slots)⟩)
            dsimp only [Pt.U, Pt.locs, Pt.cells, Pt.slots] at X86 l86 y86 z86 st86 hQ86
            subst l86 y86 z86
            obtain ⟨hh86, eh086⟩ : ∃ z, T86.heap = z := ⟨_, rfl⟩
            rw [eh086] at hQ86
            obtain ⟨rfl, Nq86, eh86⟩ := hQ86
            have N86 := Fr.app N82 Nq86
            refine own_tr st86 ?_
            have e86 : T86.heap = hh49 := eh086.trans eh86
            show own_Gl _ _ _ _ _ _ _ (T86.setTop (mkF m 154 #[.val (.int p1), .val (.int p2), .val (.int p3), .val (.int p4), .val (.int p5), .val (.ref b1), .val (.int bs), .val (.int bk), .val (.ref b10), .val (.int kd), .val (.ref r_49), .val (.int (0 : Int32)), .val (.int (0 : Int32)), .val (.int (1 : Int32)), .unset] [(.int (if bs = p1 then (if bk = p2 then (1 : Int32) else (0 : Int32)) else (0 : Int32)))]))
            refine own_st (fun _ k => XS.iload X86.here hx rfl (hb hby at_154) rfl k) ?_
            show own_Gl _ _ _ _ _ _ _ (T86.setTop (mkF m 156 #[.val (.int p1), .val (.int p2), .val (.int p3), .val (.int p4), .val (.int p5), .val (.ref b1), .val (.int bs), .val (.int bk), .val (.ref b10), .val (.int kd), .val (.ref r_49), .val (.int (0 : Int32)), .val (.int (0 : Int32)), .val (.int (1 : Int32)), .unset] [(.int (0 : Int32)), (.int (if bs = p1 then (if bk = p2 then (1 : Int32) else (0 : Int32)) else (0 : Int32)))]))
            have hd91 : (if bs = p1 then (if bk = p2 then (1 : Int32) else (0 : Int32)) else (0 : Int32)) = (0 : Int32) := (by rw [if_neg hc94])
            refine own_st (fun _ k => XS.icmpNo X86.here hx rfl (hb hby at_156) rfl (teq hd91).2 k) ?_
            show own_Gl _ _ _ _ _ _ _ (T86.setTop (mkF m 159 #[.val (.int p1), .val (.int p2), .val (.int p3), .val (.int p4), .val (.int p5), .val (.ref b1), .val (.int bs), .val (.int bk), .val (.ref b10), .val (.int kd), .val (.ref r_49), .val (.int (0 : Int32)), .val (.int (0 : Int32)), .val (.int (1 : Int32)), .unset] []))
            refine own_st (fun _ k => XS.iconst X86.here hx rfl (hb hby at_159) k) ?_
            show own_Gl _ _ _ _ _ _ _ (T86.setTop (mkF m 160 #[.val (.int p1), .val (.int p2), .val (.int p3), .val (.int p4), .val (.int p5), .val (.ref b1), .val (.int bs), .val (.int bk), .val (.ref b10), .val (.int kd), .val (.ref r_49), .val (.int (0 : Int32)), .val (.int (0 : Int32)), .val (.int (1 : Int32)), .unset] [(.int (1 : Int32))]))
            refine own_st (fun _ k => XS.goto X86.here hx rfl (pc0 := 160) (pc' := 164) rfl (hb hby at_160) (by decide) (by decide) k) ?_
            show own_Gl _ _ _ _ _ _ _ (T86.setTop (mkF m 164 #[.val (.int p1), .val (.int p2), .val (.int p3), .val (.int p4), .val (.int p5), .val (.ref b1), .val (.int bs), .val (.int bk), .val (.ref b10), .val (.int kd), .val (.ref r_49), .val (.int (0 : Int32)), .val (.int (0 : Int32)), .val (.int (1 : Int32)), .unset] [(.int (1 : Int32))]))
            refine own_st (fun _ k => XS.istore X86.here hx rfl (hb hby at_164) rfl (l' := #[.val (.int p1), .val (.int p2), .val (.int p3), .val (.int p4), .val (.int p5), .val (.ref b1), .val (.int bs), .val (.int bk), .val (.ref b10), .val (.int kd), .val (.ref r_49), .val (.int (0 : Int32)), .val (.int (0 : Int32)), .val (.int (1 : Int32)), .val (.int (1 : Int32))]) rfl k) ?_
            show own_Gl _ _ _ _ _ _ _ (T86.setTop (mkF m 166 #[.val (.int p1), .val (.int p2), .val (.int p3), .val (.int p4), .val (.int p5), .val (.ref b1), .val (.int bs), .val (.int bk), .val (.ref b10), .val (.int kd), .val (.ref r_49), .val (.int (0 : Int32)), .val (.int (0 : Int32)), .val (.int (1 : Int32)), .val (.int (1 : Int32))] []))
            refine own_st (fun _ k => XS.iload X86.here hx rfl (hb hby at_166) rfl k) ?_
            show own_Gl _ _ _ _ _ _ _ (T86.setTop (mkF m 168 #[.val (.int p1), .val (.int p2), .val (.int p3), .val (.int p4), .val (.int p5), .val (.ref b1), .val (.int bs), .val (.int bk), .val (.ref b10), .val (.int kd), .val (.ref r_49), .val (.int (0 : Int32)), .val (.int (0 : Int32)), .val (.int (1 : Int32)), .val (.int (1 : Int32))] [(.int (1 : Int32))]))
            have hd92 : ¬ ((1 : Int32) = (0 : Int32)) := (by decide)
            refine own_st (fun _ k => XS.ifNo X86.here hx rfl (hb hby at_168) rfl ((if0 _ _).trans (feq hd92).1) k) ?_
            show own_Gl _ _ _ _ _ _ _ (T86.setTop (mkF m 171 #[.val (.int p1), .val (.int p2), .val (.int p3), .val (.int p4), .val (.int p5), .val (.ref b1), .val (.int bs), .val (.int bk), .val (.ref b10), .val (.int kd), .val (.ref r_49), .val (.int (0 : Int32)), .val (.int (0 : Int32)), .val (.int (1 : Int32)), .val (.int (1 : Int32))] []))
            refine own_st (fun _ k => XS.iload X86.here hx rfl (hb hby at_171) rfl k) ?_
            show own_Gl _ _ _ _ _ _ _ (T86.setTop (mkF m 173 #[.val (.int p1), .val (.int p2), .val (.int p3), .val (.int p4), .val (.int p5), .val (.ref b1), .val (.int bs), .val (.int bk), .val (.ref b10), .val (.int kd), .val (.ref r_49), .val (.int (0 : Int32)), .val (.int (0 : Int32)), .val (.int (1 : Int32)), .val (.int (1 : Int32))] [(.int (1 : Int32))]))
            have hd93 : ¬ ((1 : Int32) = (0 : Int32)) := (by decide)
            refine own_st (fun _ k => XS.ifNo X86.here hx rfl (hb hby at_173) rfl ((if0 _ _).trans (feq hd93).1) k) ?_
            show own_Gl _ _ _ _ _ _ _ (T86.setTop (mkF m 176 #[.val (.int p1), .val (.int p2), .val (.int p3), .val (.int p4), .val (.int p5), .val (.ref b1), .val (.int bs), .val (.int bk), .val (.ref b10), .val (.int kd), .val (.ref r_49), .val (.int (0 : Int32)), .val (.int (0 : Int32)), .val (.int (1 : Int32)), .val (.int (1 : Int32))] []))
            refine own_st (fun _ k => XS.iconst X86.here hx rfl (hb hby at_176) k) ?_
            show own_Gl _ _ _ _ _ _ _ (T86.setTop (mkF m 177 #[.val (.int p1), .val (.int p2), .val (.int p3), .val (.int p4), .val (.int p5), .val (.ref b1), .val (.int bs), .val (.int bk), .val (.ref b10), .val (.int kd), .val (.ref r_49), .val (.int (0 : Int32)), .val (.int (0 : Int32)), .val (.int (1 : Int32)), .val (.int (1 : Int32))] [(.int (1 : Int32))]))
            refine own_st (fun _ k => XS.goto X86.here hx rfl (pc0 := 177) (pc' := 181) rfl (hb hby at_177) (by decide) (by decide) k) ?_
            show own_Gl _ _ _ _ _ _ _ (T86.setTop (mkF m 181 #[.val (.int p1), .val (.int p2), .val (.int p3), .val (.int p4), .val (.int p5), .val (.ref b1), .val (.int bs), .val (.int bk), .val (.ref b10), .val (.int kd), .val (.ref r_49), .val (.int (0 : Int32)), .val (.int (0 : Int32)), .val (.int (1 : Int32)), .val (.int (1 : Int32))] [(.int (1 : Int32))]))
            exact own_retN X86 hx hlk (t := .boolean) hret (by simp) (hb hby at_181) e86 ⟨rfl, N86⟩ (by decide) (by decide)
        · refine own_st (fun _ k => XS.icmpYes X13.here hx rfl (pc0 := 74) (pc' := 87) rfl (hb hby at_74) rfl (feq hc74).2 (by decide) (by decide) k) ?_
          show own_Gl _ _ _ _ _ _ _ (T13.setTop (mkF m 87 #[.val (.int p1), .val (.int p2), .val (.int p3), .val (.int p4), .val (.int p5), .val (.ref b1), .val (.int bs), .val (.int bk), .val (.ref b10), .val (.int kd), .unset, .unset, .unset, .unset, .unset] []))
          refine own_st (fun _ k => XS.aload X13.here hx rfl (hb hby at_87) rfl rfl k) ?_
          show own_Gl _ _ _ _ _ _ _ (T13.setTop (mkF m 89 #[.val (.int p1), .val (.int p2), .val (.int p3), .val (.int p4), .val (.int p5), .val (.ref b1), .val (.int bs), .val (.int bk), .val (.ref b10), .val (.int kd), .unset, .unset, .unset, .unset, .unset] [(.ref b10)]))
          refine own_st (fun _ k => XS.astore X13.here hx rfl (hb hby at_89) rfl rfl (l' := #[.val (.int p1), .val (.int p2), .val (.int p3), .val (.int p4), .val (.int p5), .val (.ref b1), .val (.int bs), .val (.int bk), .val (.ref b10), .val (.int kd), .val (.ref b10), .unset, .unset, .unset, .unset]) rfl k) ?_
          show own_Gl _ _ _ _ _ _ _ (T13.setTop (mkF m 91 #[.val (.int p1), .val (.int p2), .val (.int p3), .val (.int p4), .val (.int p5), .val (.ref b1), .val (.int bs), .val (.int bk), .val (.ref b10), .val (.int kd), .val (.ref b10), .unset, .unset, .unset, .unset] []))
          refine own_st (fun _ k => XS.iload X13.here hx rfl (hb hby at_91) rfl k) ?_
          show own_Gl _ _ _ _ _ _ _ (T13.setTop (mkF m 93 #[.val (.int p1), .val (.int p2), .val (.int p3), .val (.int p4), .val (.int p5), .val (.ref b1), .val (.int bs), .val (.int bk), .val (.ref b10), .val (.int kd), .val (.ref b10), .unset, .unset, .unset, .unset] [(.int bs)]))
          refine own_st (fun _ k => XS.iloadN X13.here hx rfl (hb hby at_93) rfl k) ?_
          show own_Gl _ _ _ _ _ _ _ (T13.setTop (mkF m 94 #[.val (.int p1), .val (.int p2), .val (.int p3), .val (.int p4), .val (.int p5), .val (.ref b1), .val (.int bs), .val (.int bk), .val (.ref b10), .val (.int kd), .val (.ref b10), .unset, .unset, .unset, .unset] [(.int p1), (.int bs)]))
          by_cases hc94 : bs = p1
          · refine own_st (fun _ k => XS.icmpNo X13.here hx rfl (hb hby at_94) rfl (teq hc94).2 k) ?_
            show own_Gl _ _ _ _ _ _ _ (T13.setTop (mkF m 97 #[.val (.int p1), .val (.int p2), .val (.int p3), .val (.int p4), .val (.int p5), .val (.ref b1), .val (.int bs), .val (.int bk), .val (.ref b10), .val (.int kd), .val (.ref b10), .unset, .unset, .unset, .unset] []))
            refine own_st (fun _ k => XS.iload X13.here hx rfl (hb hby at_97) rfl k) ?_
            show own_Gl _ _ _ _ _ _ _ (T13.setTop (mkF m 99 #[.val (.int p1), .val (.int p2), .val (.int p3), .val (.int p4), .val (.int p5), .val (.ref b1), .val (.int bs), .val (.int bk), .val (.ref b10), .val (.int kd), .val (.ref b10), .unset, .unset, .unset, .unset] [(.int bk)]))
            refine own_st (fun _ k => XS.iloadN X13.here hx rfl (hb hby at_99) rfl k) ?_
            show own_Gl _ _ _ _ _ _ _ (T13.setTop (mkF m 100 #[.val (.int p1), .val (.int p2), .val (.int p3), .val (.int p4), .val (.int p5), .val (.ref b1), .val (.int bs), .val (.int bk), .val (.ref b10), .val (.int kd), .val (.ref b10), .unset, .unset, .unset, .unset] [(.int p2), (.int bk)]))
            by_cases hc100 : bk = p2
            · refine own_st (fun _ k => XS.icmpNo X13.here hx rfl (hb hby at_100) rfl (teq hc100).2 k) ?_
              show own_Gl _ _ _ _ _ _ _ (T13.setTop (mkF m 103 #[.val (.int p1), .val (.int p2), .val (.int p3), .val (.int p4), .val (.int p5), .val (.ref b1), .val (.int bs), .val (.int bk), .val (.ref b10), .val (.int kd), .val (.ref b10), .unset, .unset, .unset, .unset] []))
              refine own_st (fun _ k => XS.iconst X13.here hx rfl (hb hby at_103) k) ?_
              show own_Gl _ _ _ _ _ _ _ (T13.setTop (mkF m 104 #[.val (.int p1), .val (.int p2), .val (.int p3), .val (.int p4), .val (.int p5), .val (.ref b1), .val (.int bs), .val (.int bk), .val (.ref b10), .val (.int kd), .val (.ref b10), .unset, .unset, .unset, .unset] [(.int (1 : Int32))]))
              refine own_st (fun _ k => XS.goto X13.here hx rfl (pc0 := 104) (pc' := 108) rfl (hb hby at_104) (by decide) (by decide) k) ?_
              show own_Gl _ _ _ _ _ _ _ (T13.setTop (mkF m 108 #[.val (.int p1), .val (.int p2), .val (.int p3), .val (.int p4), .val (.int p5), .val (.ref b1), .val (.int bs), .val (.int bk), .val (.ref b10), .val (.int kd), .val (.ref b10), .unset, .unset, .unset, .unset] [(.int (1 : Int32))]))
              refine own_st (fun _ k => XS.istore X13.here hx rfl (hb hby at_108) rfl (l' := #[.val (.int p1), .val (.int p2), .val (.int p3), .val (.int p4), .val (.int p5), .val (.ref b1), .val (.int bs), .val (.int bk), .val (.ref b10), .val (.int kd), .val (.ref b10), .val (.int (1 : Int32)), .unset, .unset, .unset]) rfl k) ?_
              show own_Gl _ _ _ _ _ _ _ (T13.setTop (mkF m 110 #[.val (.int p1), .val (.int p2), .val (.int p3), .val (.int p4), .val (.int p5), .val (.ref b1), .val (.int bs), .val (.int bk), .val (.ref b10), .val (.int kd), .val (.ref b10), .val (.int (1 : Int32)), .unset, .unset, .unset] []))
              refine own_st (fun _ k => XS.iload X13.here hx rfl (hb hby at_110) rfl k) ?_
              show own_Gl _ _ _ _ _ _ _ (T13.setTop (mkF m 112 #[.val (.int p1), .val (.int p2), .val (.int p3), .val (.int p4), .val (.int p5), .val (.ref b1), .val (.int bs), .val (.int bk), .val (.ref b10), .val (.int kd), .val (.ref b10), .val (.int (1 : Int32)), .unset, .unset, .unset] [(.int kd)]))
              refine own_st (fun _ k => XS.iconst X13.here hx rfl (hb hby at_112) k) ?_
              show own_Gl _ _ _ _ _ _ _ (T13.setTop (mkF m 113 #[.val (.int p1), .val (.int p2), .val (.int p3), .val (.int p4), .val (.int p5), .val (.ref b1), .val (.int bs), .val (.int bk), .val (.ref b10), .val (.int kd), .val (.ref b10), .val (.int (1 : Int32)), .unset, .unset, .unset] [(.int (2 : Int32)), (.int kd)]))
              have hd94 : ¬ (kd < (2 : Int32)) := own_k2 _ hkr hc62 hc74
              refine own_st (fun _ k => XS.icmpNo X13.here hx rfl (hb hby at_113) rfl (flt hd94).1 k) ?_
              show own_Gl _ _ _ _ _ _ _ (T13.setTop (mkF m 116 #[.val (.int p1), .val (.int p2), .val (.int p3), .val (.int p4), .val (.int p5), .val (.ref b1), .val (.int bs), .val (.int bk), .val (.ref b10), .val (.int kd), .val (.ref b10), .val (.int (1 : Int32)), .unset, .unset, .unset] []))
              refine own_st (fun _ k => XS.iload X13.here hx rfl (hb hby at_116) rfl k) ?_
              show own_Gl _ _ _ _ _ _ _ (T13.setTop (mkF m 118 #[.val (.int p1), .val (.int p2), .val (.int p3), .val (.int p4), .val (.int p5), .val (.ref b1), .val (.int bs), .val (.int bk), .val (.ref b10), .val (.int kd), .val (.ref b10), .val (.int (1 : Int32)), .unset, .unset, .unset] [(.int (1 : Int32))]))
              have hd95 : ¬ ((1 : Int32) = (0 : Int32)) := (by decide)
              refine own_st (fun _ k => XS.ifNo X13.here hx rfl (hb hby at_118) rfl ((if0 _ _).trans (feq hd95).1) k) ?_
              show own_Gl _ _ _ _ _ _ _ (T13.setTop (mkF m 121 #[.val (.int p1), .val (.int p2), .val (.int p3), .val (.int p4), .val (.int p5), .val (.ref b1), .val (.int bs), .val (.int bk), .val (.ref b10), .val (.int kd), .val (.ref b10), .val (.int (1 : Int32)), .unset, .unset, .unset] []))
              refine own_st (fun _ k => XS.iconst X13.here hx rfl (hb hby at_121) k) ?_
              show own_Gl _ _ _ _ _ _ _ (T13.setTop (mkF m 122 #[.val (.int p1), .val (.int p2), .val (.int p3), .val (.int p4), .val (.int p5), .val (.ref b1), .val (.int bs), .val (.int bk), .val (.ref b10), .val (.int kd), .val (.ref b10), .val (.int (1 : Int32)), .unset, .unset, .unset] [(.int (1 : Int32))]))
              refine own_st (fun _ k => XS.goto X13.here hx rfl (pc0 := 122) (pc' := 126) rfl (hb hby at_122) (by decide) (by decide) k) ?_
              show own_Gl _ _ _ _ _ _ _ (T13.setTop (mkF m 126 #[.val (.int p1), .val (.int p2), .val (.int p3), .val (.int p4), .val (.int p5), .val (.ref b1), .val (.int bs), .val (.int bk), .val (.ref b10), .val (.int kd), .val (.ref b10), .val (.int (1 : Int32)), .unset, .unset, .unset] [(.int (1 : Int32))]))
              refine own_st (fun _ k => XS.istore X13.here hx rfl (hb hby at_126) rfl (l' := #[.val (.int p1), .val (.int p2), .val (.int p3), .val (.int p4), .val (.int p5), .val (.ref b1), .val (.int bs), .val (.int bk), .val (.ref b10), .val (.int kd), .val (.ref b10), .val (.int (1 : Int32)), .val (.int (1 : Int32)), .unset, .unset]) rfl k) ?_
              show own_Gl _ _ _ _ _ _ _ (T13.setTop (mkF m 128 #[.val (.int p1), .val (.int p2), .val (.int p3), .val (.int p4), .val (.int p5), .val (.ref b1), .val (.int bs), .val (.int bk), .val (.ref b10), .val (.int kd), .val (.ref b10), .val (.int (1 : Int32)), .val (.int (1 : Int32)), .unset, .unset] []))
              refine own_st (fun _ k => XS.aload X13.here hx rfl (hb hby at_128) rfl rfl k) ?_
              show own_Gl _ _ _ _ _ _ _ (T13.setTop (mkF m 130 #[.val (.int p1), .val (.int p2), .val (.int p3), .val (.int p4), .val (.int p5), .val (.ref b1), .val (.int bs), .val (.int bk), .val (.ref b10), .val (.int kd), .val (.ref b10), .val (.int (1 : Int32)), .val (.int (1 : Int32)), .unset, .unset] [(.ref b1)]))
              refine own_st (fun _ k => XS.aload X13.here hx rfl (hb hby at_130) rfl rfl k) ?_
              show own_Gl _ _ _ _ _ _ _ (T13.setTop (mkF m 132 #[.val (.int p1), .val (.int p2), .val (.int p3), .val (.int p4), .val (.int p5), .val (.ref b1), .val (.int bs), .val (.int bk), .val (.ref b10), .val (.int kd), .val (.ref b10), .val (.int (1 : Int32)), .val (.int (1 : Int32)), .unset, .unset] [(.ref b10), (.ref b1)]))
              have f97 := (A10.keep Kq13)
              have f98 := ((P4_0.ext E10).keep Kq13 (ninS ne_b1_b10 nin0))
              have f99 := ((P4_1.ext E10).keep Kq13 (ninS ne_b1_b10 nin0))
              have f100 := (f14.keep Kq13)
              obtain ⟨cq96, kq96, q96a, q96b, q96c⟩ := isOf hZ eh013 f100
              obtain ⟨_, _, ⟨T96, L96, k96, n96⟩, -, X96, ⟨Lc96, hQ96, l96, y96, z96⟩, st96⟩ := X13.virtualBack hx (y := (⟨"com/example/ewig/ewig/LogRotation", "equals", "(Ljava/lang/Object;)Z"⟩ : MethodName)) (z := (⟨"com/example/ewig/ewig/LogRotation", "equals", "(Ljava/lang/Object;)Z"⟩ : MethodName)) hown (mvT hZ (hw _ (List.mem_of_getElem? (i := 13) rfl))) (mvT hZ (hw _ (List.mem_of_getElem? (i := 14) rfl))) (notFace_of_selects (args := #[]) (mvT hZ (hw _ (List.mem_of_getElem? (i := 16) rfl)))) (mvT hZ (hw _ (List.mem_of_getElem? (i := 16) rfl))) (mvT hZ (hw _ (List.mem_of_getElem? (i := 15) rfl))) (by decide) (backOf (W := 0) (own_eq_obj l Z a0 hw [] b1 b10 p1 p2 bs bk hh13 n0 Zs15 f97 f98 f99 P13_0 P13_1) hZ (hw _ (List.mem_of_getElem? (i := 17) rfl)) (hw _ (List.mem_of_getElem? (i := 2) rfl)) (by decide) (by decide)) q96a q96c (g := (mkF m 132 #[.val (.int p1), .val (.int p2), .val (.int p3), .val (.int p4), .val (.int p5), .val (.ref b1), .val (.int bs), .val (.int bk), .val (.ref b10), .val (.int kd), .val (.ref b10), .val (.int (1 : Int32)), .val (.int (1 : Int32)), .unset, .unset] [(.ref b10), (.ref b1)])) rfl (by rw [hml]; rfl) (Steps.refl _) (argsL := [(.ref b10)]) (rest := []) (lenOf own_pd963338152 rfl) rfl (by show 2 * 0 + _ ≤ _; exact Nat.le_of_eq rfl) (hb hby at_132) (fun _ _ => ⟨rfl, eh013, (by decide : 2 + 0 ≤ room_1.cells), (by decide : 4 + 0 ≤ room_1.slots)⟩)
              dsimp only [Pt.U, Pt.locs, Pt.cells, Pt.slots] at X96 l96 y96 z96 st96 hQ96
              subst l96 y96 z96
              obtain ⟨hh96, eh096⟩ : ∃ z, T96.heap = z := ⟨_, rfl⟩
              rw [eh096] at hQ96
              obtain ⟨rfl, Nq96, eh96⟩ := hQ96
              have N96 := Fr.app N13 Nq96
              refine own_tr st96 ?_
              have e96 : T96.heap = hh13 := eh096.trans eh96
              show own_Gl _ _ _ _ _ _ _ (T96.setTop (mkF m 135 #[.val (.int p1), .val (.int p2), .val (.int p3), .val (.int p4), .val (.int p5), .val (.ref b1), .val (.int bs), .val (.int bk), .val (.ref b10), .val (.int kd), .val (.ref b10), .val (.int (1 : Int32)), .val (.int (1 : Int32)), .unset, .unset] [(.int (if p1 = bs then (if p2 = bk then (1 : Int32) else (0 : Int32)) else (0 : Int32)))]))
              refine own_st (fun _ k => XS.iload X96.here hx rfl (hb hby at_135) rfl k) ?_
              show own_Gl _ _ _ _ _ _ _ (T96.setTop (mkF m 137 #[.val (.int p1), .val (.int p2), .val (.int p3), .val (.int p4), .val (.int p5), .val (.ref b1), .val (.int bs), .val (.int bk), .val (.ref b10), .val (.int kd), .val (.ref b10), .val (.int (1 : Int32)), .val (.int (1 : Int32)), .unset, .unset] [(.int (1 : Int32)), (.int (if p1 = bs then (if p2 = bk then (1 : Int32) else (0 : Int32)) else (0 : Int32)))]))
              have hd101 : (if p1 = bs then (if p2 = bk then (1 : Int32) else (0 : Int32)) else (0 : Int32)) = (1 : Int32) := (by rw [if_pos hc94.symm, if_pos hc100.symm])
              refine own_st (fun _ k => XS.icmpNo X96.here hx rfl (hb hby at_137) rfl (teq hd101).2 k) ?_
              show own_Gl _ _ _ _ _ _ _ (T96.setTop (mkF m 140 #[.val (.int p1), .val (.int p2), .val (.int p3), .val (.int p4), .val (.int p5), .val (.ref b1), .val (.int bs), .val (.int bk), .val (.ref b10), .val (.int kd), .val (.ref b10), .val (.int (1 : Int32)), .val (.int (1 : Int32)), .unset, .unset] []))
              refine own_st (fun _ k => XS.iconst X96.here hx rfl (hb hby at_140) k) ?_
              show own_Gl _ _ _ _ _ _ _ (T96.setTop (mkF m 141 #[.val (.int p1), .val (.int p2), .val (.int p3), .val (.int p4), .val (.int p5), .val (.ref b1), .val (.int bs), .val (.int bk), .val (.ref b10), .val (.int kd), .val (.ref b10), .val (.int (1 : Int32)), .val (.int (1 : Int32)), .unset, .unset] [(.int (1 : Int32))]))
              refine own_st (fun _ k => XS.goto X96.here hx rfl (pc0 := 141) (pc' := 145) rfl (hb hby at_141) (by decide) (by decide) k) ?_
              show own_Gl _ _ _ _ _ _ _ (T96.setTop (mkF m 145 #[.val (.int p1), .val (.int p2), .val (.int p3), .val (.int p4), .val (.int p5), .val (.ref b1), .val (.int bs), .val (.int bk), .val (.ref b10), .val (.int kd), .val (.ref b10), .val (.int (1 : Int32)), .val (.int (1 : Int32)), .unset, .unset] [(.int (1 : Int32))]))
              refine own_st (fun _ k => XS.istore X96.here hx rfl (hb hby at_145) rfl (l' := #[.val (.int p1), .val (.int p2), .val (.int p3), .val (.int p4), .val (.int p5), .val (.ref b1), .val (.int bs), .val (.int bk), .val (.ref b10), .val (.int kd), .val (.ref b10), .val (.int (1 : Int32)), .val (.int (1 : Int32)), .val (.int (1 : Int32)), .unset]) rfl k) ?_
              show own_Gl _ _ _ _ _ _ _ (T96.setTop (mkF m 147 #[.val (.int p1), .val (.int p2), .val (.int p3), .val (.int p4), .val (.int p5), .val (.ref b1), .val (.int bs), .val (.int bk), .val (.ref b10), .val (.int kd), .val (.ref b10), .val (.int (1 : Int32)), .val (.int (1 : Int32)), .val (.int (1 : Int32)), .unset] []))
              refine own_st (fun _ k => XS.aload X96.here hx rfl (hb hby at_147) rfl rfl k) ?_
              show own_Gl _ _ _ _ _ _ _ (T96.setTop (mkF m 149 #[.val (.int p1), .val (.int p2), .val (.int p3), .val (.int p4), .val (.int p5), .val (.ref b1), .val (.int bs), .val (.int bk), .val (.ref b10), .val (.int kd), .val (.ref b10), .val (.int (1 : Int32)), .val (.int (1 : Int32)), .val (.int (1 : Int32)), .unset] [(.ref b10)]))
              refine own_st (fun _ k => XS.aload X96.here hx rfl (hb hby at_149) rfl rfl k) ?_
              show own_Gl _ _ _ _ _ _ _ (T96.setTop (mkF m 151 #[.val (.int p1), .val (.int p2), .val (.int p3), .val (.int p4), .val (.int p5), .val (.ref b1), .val (.int bs), .val (.int bk), .val (.ref b10), .val (.int kd), .val (.ref b10), .val (.int (1 : Int32)), .val (.int (1 : Int32)), .val (.int (1 : Int32)), .unset] [(.ref b1), (.ref b10)]))
              obtain ⟨cq102, kq102, q102a, q102b, q102c⟩ := isOf hZ e96 f97
              obtain ⟨_, _, ⟨T102, L102, k102, n102⟩, -, X102, ⟨Lc102, hQ102, l102, y102, z102⟩, st102⟩ := X96.virtualBack hx (y := (⟨"com/example/ewig/ewig/LogRotation", "equals", "(Ljava/lang/Object;)Z"⟩ : MethodName)) (z := (⟨"com/example/ewig/ewig/LogRotation", "equals", "(Ljava/lang/Object;)Z"⟩ : MethodName)) hown (mvT hZ (hw _ (List.mem_of_getElem? (i := 13) rfl))) (mvT hZ (hw _ (List.mem_of_getElem? (i := 14) rfl))) (notFace_of_selects (args := #[]) (mvT hZ (hw _ (List.mem_of_getElem? (i := 16) rfl)))) (mvT hZ (hw _ (List.mem_of_getElem? (i := 16) rfl))) (mvT hZ (hw _ (List.mem_of_getElem? (i := 15) rfl))) (by decide) (backOf (W := 0) (own_eq_obj l Z a0 hw [] b10 b1 bs bk p1 p2 hh13 n0 Zs15 f100 P13_0 P13_1 f98 f99) hZ (hw _ (List.mem_of_getElem? (i := 17) rfl)) (hw _ (List.mem_of_getElem? (i := 2) rfl)) (by decide) (by decide)) q102a q102c (g := (mkF m 151 #[.val (.int p1), .val (.int p2), .val (.int p3), .val (.int p4), .val (.int p5), .val (.ref b1), .val (.int bs), .val (.int bk), .val (.ref b10), .val (.int kd), .val (.ref b10), .val (.int (1 : Int32)), .val (.int (1 : Int32)), .val (.int (1 : Int32)), .unset] [(.ref b1), (.ref b10)])) rfl (by rw [hml]; rfl) (Steps.refl _) (argsL := [(.ref b1)]) (rest := []) (lenOf own_pd963338152 rfl) rfl (by show 2 * 0 + _ ≤ _; exact Nat.le_of_eq rfl) (hb hby at_151) (fun _ _ => ⟨rfl, e96, (by decide : 2 + 0 ≤ room_1.cells), (by decide : 4 + 0 ≤ room_1.slots)⟩)
              dsimp only [Pt.U, Pt.locs, Pt.cells, Pt.slots] at X102 l102 y102 z102 st102 hQ102
              subst l102 y102 z102
              obtain ⟨hh102, eh0102⟩ : ∃ z, T102.heap = z := ⟨_, rfl⟩
              rw [eh0102] at hQ102
              obtain ⟨rfl, Nq102, eh102⟩ := hQ102
              have N102 := Fr.app N96 Nq102
              refine own_tr st102 ?_
              have e102 : T102.heap = hh13 := eh0102.trans eh102
              show own_Gl _ _ _ _ _ _ _ (T102.setTop (mkF m 154 #[.val (.int p1), .val (.int p2), .val (.int p3), .val (.int p4), .val (.int p5), .val (.ref b1), .val (.int bs), .val (.int bk), .val (.ref b10), .val (.int kd), .val (.ref b10), .val (.int (1 : Int32)), .val (.int (1 : Int32)), .val (.int (1 : Int32)), .unset] [(.int (if bs = p1 then (if bk = p2 then (1 : Int32) else (0 : Int32)) else (0 : Int32)))]))
              refine own_st (fun _ k => XS.iload X102.here hx rfl (hb hby at_154) rfl k) ?_
              show own_Gl _ _ _ _ _ _ _ (T102.setTop (mkF m 156 #[.val (.int p1), .val (.int p2), .val (.int p3), .val (.int p4), .val (.int p5), .val (.ref b1), .val (.int bs), .val (.int bk), .val (.ref b10), .val (.int kd), .val (.ref b10), .val (.int (1 : Int32)), .val (.int (1 : Int32)), .val (.int (1 : Int32)), .unset] [(.int (1 : Int32)), (.int (if bs = p1 then (if bk = p2 then (1 : Int32) else (0 : Int32)) else (0 : Int32)))]))
              have hd103 : (if bs = p1 then (if bk = p2 then (1 : Int32) else (0 : Int32)) else (0 : Int32)) = (1 : Int32) := (by rw [if_pos hc94, if_pos hc100])
              refine own_st (fun _ k => XS.icmpNo X102.here hx rfl (hb hby at_156) rfl (teq hd103).2 k) ?_
              show own_Gl _ _ _ _ _ _ _ (T102.setTop (mkF m 159 #[.val (.int p1), .val (.int p2), .val (.int p3), .val (.int p4), .val (.int p5), .val (.ref b1), .val (.int bs), .val (.int bk), .val (.ref b10), .val (.int kd), .val (.ref b10), .val (.int (1 : Int32)), .val (.int (1 : Int32)), .val (.int (1 : Int32)), .unset] []))
              refine own_st (fun _ k => XS.iconst X102.here hx rfl (hb hby at_159) k) ?_
              show own_Gl _ _ _ _ _ _ _ (T102.setTop (mkF m 160 #[.val (.int p1), .val (.int p2), .val (.int p3), .val (.int p4), .val (.int p5), .val (.ref b1), .val (.int bs), .val (.int bk), .val (.ref b10), .val (.int kd), .val (.ref b10), .val (.int (1 : Int32)), .val (.int (1 : Int32)), .val (.int (1 : Int32)), .unset] [(.int (1 : Int32))]))
              refine own_st (fun _ k => XS.goto X102.here hx rfl (pc0 := 160) (pc' := 164) rfl (hb hby at_160) (by decide) (by decide) k) ?_
              show own_Gl _ _ _ _ _ _ _ (T102.setTop (mkF m 164 #[.val (.int p1), .val (.int p2), .val (.int p3), .val (.int p4), .val (.int p5), .val (.ref b1), .val (.int bs), .val (.int bk), .val (.ref b10), .val (.int kd), .val (.ref b10), .val (.int (1 : Int32)), .val (.int (1 : Int32)), .val (.int (1 : Int32)), .unset] [(.int (1 : Int32))]))
              refine own_st (fun _ k => XS.istore X102.here hx rfl (hb hby at_164) rfl (l' := #[.val (.int p1), .val (.int p2), .val (.int p3), .val (.int p4), .val (.int p5), .val (.ref b1), .val (.int bs), .val (.int bk), .val (.ref b10), .val (.int kd), .val (.ref b10), .val (.int (1 : Int32)), .val (.int (1 : Int32)), .val (.int (1 : Int32)), .val (.int (1 : Int32))]) rfl k) ?_
              show own_Gl _ _ _ _ _ _ _ (T102.setTop (mkF m 166 #[.val (.int p1), .val (.int p2), .val (.int p3), .val (.int p4), .val (.int p5), .val (.ref b1), .val (.int bs), .val (.int bk), .val (.ref b10), .val (.int kd), .val (.ref b10), .val (.int (1 : Int32)), .val (.int (1 : Int32)), .val (.int (1 : Int32)), .val (.int (1 : Int32))] []))
              refine own_st (fun _ k => XS.iload X102.here hx rfl (hb hby at_166) rfl k) ?_
              show own_Gl _ _ _ _ _ _ _ (T102.setTop (mkF m 168 #[.val (.int p1), .val (.int p2), .val (.int p3), .val (.int p4), .val (.int p5), .val (.ref b1), .val (.int bs), .val (.int bk), .val (.ref b10), .val (.int kd), .val (.ref b10), .val (.int (1 : Int32)), .val (.int (1 : Int32)), .val (.int (1 : Int32)), .val (.int (1 : Int32))] [(.int (1 : Int32))]))
              have hd104 : ¬ ((1 : Int32) = (0 : Int32)) := (by decide)
              refine own_st (fun _ k => XS.ifNo X102.here hx rfl (hb hby at_168) rfl ((if0 _ _).trans (feq hd104).1) k) ?_
              show own_Gl _ _ _ _ _ _ _ (T102.setTop (mkF m 171 #[.val (.int p1), .val (.int p2), .val (.int p3), .val (.int p4), .val (.int p5), .val (.ref b1), .val (.int bs), .val (.int bk), .val (.ref b10), .val (.int kd), .val (.ref b10), .val (.int (1 : Int32)), .val (.int (1 : Int32)), .val (.int (1 : Int32)), .val (.int (1 : Int32))] []))
              refine own_st (fun _ k => XS.iload X102.here hx rfl (hb hby at_171) rfl k) ?_
              show own_Gl _ _ _ _ _ _ _ (T102.setTop (mkF m 173 #[.val (.int p1), .val (.int p2), .val (.int p3), .val (.int p4), .val (.int p5), .val (.ref b1), .val (.int bs), .val (.int bk), .val (.ref b10), .val (.int kd), .val (.ref b10), .val (.int (1 : Int32)), .val (.int (1 : Int32)), .val (.int (1 : Int32)), .val (.int (1 : Int32))] [(.int (1 : Int32))]))
              have hd105 : ¬ ((1 : Int32) = (0 : Int32)) := (by decide)
              refine own_st (fun _ k => XS.ifNo X102.here hx rfl (hb hby at_173) rfl ((if0 _ _).trans (feq hd105).1) k) ?_
              show own_Gl _ _ _ _ _ _ _ (T102.setTop (mkF m 176 #[.val (.int p1), .val (.int p2), .val (.int p3), .val (.int p4), .val (.int p5), .val (.ref b1), .val (.int bs), .val (.int bk), .val (.ref b10), .val (.int kd), .val (.ref b10), .val (.int (1 : Int32)), .val (.int (1 : Int32)), .val (.int (1 : Int32)), .val (.int (1 : Int32))] []))
              refine own_st (fun _ k => XS.iconst X102.here hx rfl (hb hby at_176) k) ?_
              show own_Gl _ _ _ _ _ _ _ (T102.setTop (mkF m 177 #[.val (.int p1), .val (.int p2), .val (.int p3), .val (.int p4), .val (.int p5), .val (.ref b1), .val (.int bs), .val (.int bk), .val (.ref b10), .val (.int kd), .val (.ref b10), .val (.int (1 : Int32)), .val (.int (1 : Int32)), .val (.int (1 : Int32)), .val (.int (1 : Int32))] [(.int (1 : Int32))]))
              refine own_st (fun _ k => XS.goto X102.here hx rfl (pc0 := 177) (pc' := 181) rfl (hb hby at_177) (by decide) (by decide) k) ?_
              show own_Gl _ _ _ _ _ _ _ (T102.setTop (mkF m 181 #[.val (.int p1), .val (.int p2), .val (.int p3), .val (.int p4), .val (.int p5), .val (.ref b1), .val (.int bs), .val (.int bk), .val (.ref b10), .val (.int kd), .val (.ref b10), .val (.int (1 : Int32)), .val (.int (1 : Int32)), .val (.int (1 : Int32)), .val (.int (1 : Int32))] [(.int (1 : Int32))]))
              exact own_retN X102 hx hlk (t := .boolean) hret (by simp) (hb hby at_181) e102 ⟨rfl, N102⟩ (by decide) (by decide)
            · refine own_st (fun _ k => XS.icmpYes X13.here hx rfl (pc0 := 100) (pc' := 107) rfl (hb hby at_100) rfl (feq hc100).2 (by decide) (by decide) k) ?_
              show own_Gl _ _ _ _ _ _ _ (T13.setTop (mkF m 107 #[.val (.int p1), .val (.int p2), .val (.int p3), .val (.int p4), .val (.int p5), .val (.ref b1), .val (.int bs), .val (.int bk), .val (.ref b10), .val (.int kd), .val (.ref b10), .unset, .unset, .unset, .unset] []))
              refine own_st (fun _ k => XS.iconst X13.here hx rfl (hb hby at_107) k) ?_
              show own_Gl _ _ _ _ _ _ _ (T13.setTop (mkF m 108 #[.val (.int p1), .val (.int p2), .val (.int p3), .val (.int p4), .val (.int p5), .val (.ref b1), .val (.int bs), .val (.int bk), .val (.ref b10), .val (.int kd), .val (.ref b10), .unset, .unset, .unset, .unset] [(.int (0 : Int32))]))
              refine own_st (fun _ k => XS.istore X13.here hx rfl (hb hby at_108) rfl (l' := #[.val (.int p1), .val (.int p2), .val (.int p3), .val (.int p4), .val (.int p5), .val (.ref b1), .val (.int bs), .val (.int bk), .val (.ref b10), .val (.int kd), .val (.ref b10), .val (.int (0 : Int32)), .unset, .unset, .unset]) rfl k) ?_
              show own_Gl _ _ _ _ _ _ _ (T13.setTop (mkF m 110 #[.val (.int p1), .val (.int p2), .val (.int p3), .val (.int p4), .val (.int p5), .val (.ref b1), .val (.int bs), .val (.int bk), .val (.ref b10), .val (.int kd), .val (.ref b10), .val (.int (0 : Int32)), .unset, .unset, .unset] []))
              refine own_st (fun _ k => XS.iload X13.here hx rfl (hb hby at_110) rfl k) ?_
              show own_Gl _ _ _ _ _ _ _ (T13.setTop (mkF m 112 #[.val (.int p1), .val (.int p2), .val (.int p3), .val (.int p4), .val (.int p5), .val (.ref b1), .val (.int bs), .val (.int bk), .val (.ref b10), .val (.int kd), .val (.ref b10), .val (.int (0 : Int32)), .unset, .unset, .unset] [(.int kd)]))
              refine own_st (fun _ k => XS.iconst X13.here hx rfl (hb hby at_112) k) ?_
              show own_Gl _ _ _ _ _ _ _ (T13.setTop (mkF m 113 #[.val (.int p1), .val (.int p2), .val (.int p3), .val (.int p4), .val (.int p5), .val (.ref b1), .val (.int bs), .val (.int bk), .val (.ref b10), .val (.int kd), .val (.ref b10), .val (.int (0 : Int32)), .unset, .unset, .unset] [(.int (2 : Int32)), (.int kd)]))
              have hd106 : ¬ (kd < (2 : Int32)) := own_k2 _ hkr hc62 hc74
              refine own_st (fun _ k => XS.icmpNo X13.here hx rfl (hb hby at_113) rfl (flt hd106).1 k) ?_
              show own_Gl _ _ _ _ _ _ _ (T13.setTop (mkF m 116 #[.val (.int p1), .val (.int p2), .val (.int p3), .val (.int p4), .val (.int p5), .val (.ref b1), .val (.int bs), .val (.int bk), .val (.ref b10), .val (.int kd), .val (.ref b10), .val (.int (0 : Int32)), .unset, .unset, .unset] []))
              refine own_st (fun _ k => XS.iload X13.here hx rfl (hb hby at_116) rfl k) ?_
              show own_Gl _ _ _ _ _ _ _ (T13.setTop (mkF m 118 #[.val (.int p1), .val (.int p2), .val (.int p3), .val (.int p4), .val (.int p5), .val (.ref b1), .val (.int bs), .val (.int bk), .val (.ref b10), .val (.int kd), .val (.ref b10), .val (.int (0 : Int32)), .unset, .unset, .unset] [(.int (0 : Int32))]))
              have hd107 : (0 : Int32) = (0 : Int32) := (by decide)
              refine own_st (fun _ k => XS.ifYes X13.here hx rfl (pc0 := 118) (pc' := 125) rfl (hb hby at_118) rfl ((if0 _ _).trans (teq hd107).1) (by decide) (by decide) k) ?_
              show own_Gl _ _ _ _ _ _ _ (T13.setTop (mkF m 125 #[.val (.int p1), .val (.int p2), .val (.int p3), .val (.int p4), .val (.int p5), .val (.ref b1), .val (.int bs), .val (.int bk), .val (.ref b10), .val (.int kd), .val (.ref b10), .val (.int (0 : Int32)), .unset, .unset, .unset] []))
              refine own_st (fun _ k => XS.iconst X13.here hx rfl (hb hby at_125) k) ?_
              show own_Gl _ _ _ _ _ _ _ (T13.setTop (mkF m 126 #[.val (.int p1), .val (.int p2), .val (.int p3), .val (.int p4), .val (.int p5), .val (.ref b1), .val (.int bs), .val (.int bk), .val (.ref b10), .val (.int kd), .val (.ref b10), .val (.int (0 : Int32)), .unset, .unset, .unset] [(.int (0 : Int32))]))
              refine own_st (fun _ k => XS.istore X13.here hx rfl (hb hby at_126) rfl (l' := #[.val (.int p1), .val (.int p2), .val (.int p3), .val (.int p4), .val (.int p5), .val (.ref b1), .val (.int bs), .val (.int bk), .val (.ref b10), .val (.int kd), .val (.ref b10), .val (.int (0 : Int32)), .val (.int (0 : Int32)), .unset, .unset]) rfl k) ?_
              show own_Gl _ _ _ _ _ _ _ (T13.setTop (mkF m 128 #[.val (.int p1), .val (.int p2), .val (.int p3), .val (.int p4), .val (.int p5), .val (.ref b1), .val (.int bs), .val (.int bk), .val (.ref b10), .val (.int kd), .val (.ref b10), .val (.int (0 : Int32)), .val (.int (0 : Int32)), .unset, .unset] []))
              refine own_st (fun _ k => XS.aload X13.here hx rfl (hb hby at_128) rfl rfl k) ?_
              show own_Gl _ _ _ _ _ _ _ (T13.setTop (mkF m 130 #[.val (.int p1), .val (.int p2), .val (.int p3), .val (.int p4), .val (.int p5), .val (.ref b1), .val (.int bs), .val (.int bk), .val (.ref b10), .val (.int kd), .val (.ref b10), .val (.int (0 : Int32)), .val (.int (0 : Int32)), .unset, .unset] [(.ref b1)]))
              refine own_st (fun _ k => XS.aload X13.here hx rfl (hb hby at_130) rfl rfl k) ?_
              show own_Gl _ _ _ _ _ _ _ (T13.setTop (mkF m 132 #[.val (.int p1), .val (.int p2), .val (.int p3), .val (.int p4), .val (.int p5), .val (.ref b1), .val (.int bs), .val (.int bk), .val (.ref b10), .val (.int kd), .val (.ref b10), .val (.int (0 : Int32)), .val (.int (0 : Int32)), .unset, .unset] [(.ref b10), (.ref b1)]))
              have f109 := (A10.keep Kq13)
              have f110 := ((P4_0.ext E10).keep Kq13 (ninS ne_b1_b10 nin0))
              have f111 := ((P4_1.ext E10).keep Kq13 (ninS ne_b1_b10 nin0))
              have f112 := (f14.keep Kq13)
              obtain ⟨cq108, kq108, q108a, q108b, q108c⟩ := isOf hZ eh013 f112
              obtain ⟨_, _, ⟨T108, L108, k108, n108⟩, -, X108, ⟨Lc108, hQ108, l108, y108, z108⟩, st108⟩ := X13.virtualBack hx (y := (⟨"com/example/ewig/ewig/LogRotation", "equals", "(Ljava/lang/Object;)Z"⟩ : MethodName)) (z := (⟨"com/example/ewig/ewig/LogRotation", "equals", "(Ljava/lang/Object;)Z"⟩ : MethodName)) hown (mvT hZ (hw _ (List.mem_of_getElem? (i := 13) rfl))) (mvT hZ (hw _ (List.mem_of_getElem? (i := 14) rfl))) (notFace_of_selects (args := #[]) (mvT hZ (hw _ (List.mem_of_getElem? (i := 16) rfl)))) (mvT hZ (hw _ (List.mem_of_getElem? (i := 16) rfl))) (mvT hZ (hw _ (List.mem_of_getElem? (i := 15) rfl))) (by decide) (backOf (W := 0) (own_eq_obj l Z a0 hw [] b1 b10 p1 p2 bs bk hh13 n0 Zs15 f109 f110 f111 P13_0 P13_1) hZ (hw _ (List.mem_of_getElem? (i := 17) rfl)) (hw _ (List.mem_of_getElem? (i := 2) rfl)) (by decide) (by decide)) q108a q108c (g := (mkF m 132 #[.val (.int p1), .val (.int p2), .val (.int p3), .val (.int p4), .val (.int p5), .val (.ref b1), .val (.int bs), .val (.int bk), .val (.ref b10), .val (.int kd), .val (.ref b10), .val (.int (0 : Int32)), .val (.int (0 : Int32)), .unset, .unset] [(.ref b10), (.ref b1)])) rfl (by rw [hml]; rfl) (Steps.refl _) (argsL := [(.ref b10)]) (rest := []) (lenOf own_pd963338152 rfl) rfl (by show 2 * 0 + _ ≤ _; exact Nat.le_of_eq rfl) (hb hby at_132) (fun _ _ => ⟨rfl, eh013, (by decide : 2 + 0 ≤ room_1.cells), (by decide : 4 + 0 ≤ room_1.slots)⟩)
              dsimp only [Pt.U, Pt.locs, Pt.cells, Pt.slots] at X108 l108 y108 z108 st108 hQ108
              subst l108 y108 z108
              obtain ⟨hh108, eh0108⟩ : ∃ z, T108.heap = z := ⟨_, rfl⟩
              rw [eh0108] at hQ108
              obtain ⟨rfl, Nq108, eh108⟩ := hQ108
              have N108 := Fr.app N13 Nq108
              refine own_tr st108 ?_
              have e108 : T108.heap = hh13 := eh0108.trans eh108
              show own_Gl _ _ _ _ _ _ _ (T108.setTop (mkF m 135 #[.val (.int p1), .val (.int p2), .val (.int p3), .val (.int p4), .val (.int p5), .val (.ref b1), .val (.int bs), .val (.int bk), .val (.ref b10), .val (.int kd), .val (.ref b10), .val (.int (0 : Int32)), .val (.int (0 : Int32)), .unset, .unset] [(.int (if p1 = bs then (if p2 = bk then (1 : Int32) else (0 : Int32)) else (0 : Int32)))]))
              refine own_st (fun _ k => XS.iload X108.here hx rfl (hb hby at_135) rfl k) ?_
              show own_Gl _ _ _ _ _ _ _ (T108.setTop (mkF m 137 #[.val (.int p1), .val (.int p2), .val (.int p3), .val (.int p4), .val (.int p5), .val (.ref b1), .val (.int bs), .val (.int bk), .val (.ref b10), .val (.int kd), .val (.ref b10), .val (.int (0 : Int32)), .val (.int (0 : Int32)), .unset, .unset] [(.int (0 : Int32)), (.int (if p1 = bs then (if p2 = bk then (1 : Int32) else (0 : Int32)) else (0 : Int32)))]))
              have hd113 : (if p1 = bs then (if p2 = bk then (1 : Int32) else (0 : Int32)) else (0 : Int32)) = (0 : Int32) := (by rw [if_pos hc94.symm, if_neg (Ne.symm hc100)])
              refine own_st (fun _ k => XS.icmpNo X108.here hx rfl (hb hby at_137) rfl (teq hd113).2 k) ?_
              show own_Gl _ _ _ _ _ _ _ (T108.setTop (mkF m 140 #[.val (.int p1), .val (.int p2), .val (.int p3), .val (.int p4), .val (.int p5), .val (.ref b1), .val (.int bs), .val (.int bk), .val (.ref b10), .val (.int kd), .val (.ref b10), .val (.int (0 : Int32)), .val (.int (0 : Int32)), .unset, .unset] []))
              refine own_st (fun _ k => XS.iconst X108.here hx rfl (hb hby at_140) k) ?_
              show own_Gl _ _ _ _ _ _ _ (T108.setTop (mkF m 141 #[.val (.int p1), .val (.int p2), .val (.int p3), .val (.int p4), .val (.int p5), .val (.ref b1), .val (.int bs), .val (.int bk), .val (.ref b10), .val (.int kd), .val (.ref b10), .val (.int (0 : Int32)), .val (.int (0 : Int32)), .unset, .unset] [(.int (1 : Int32))]))
              refine own_st (fun _ k => XS.goto X108.here hx rfl (pc0 := 141) (pc' := 145) rfl (hb hby at_141) (by decide) (by decide) k) ?_
              show own_Gl _ _ _ _ _ _ _ (T108.setTop (mkF m 145 #[.val (.int p1), .val (.int p2), .val (.int p3), .val (.int p4), .val (.int p5), .val (.ref b1), .val (.int bs), .val (.int bk), .val (.ref b10), .val (.int kd), .val (.ref b10), .val (.int (0 : Int32)), .val (.int (0 : Int32)), .unset, .unset] [(.int (1 : Int32))]))
              refine own_st (fun _ k => XS.istore X108.here hx rfl (hb hby at_145) rfl (l' := #[.val (.int p1), .val (.int p2), .val (.int p3), .val (.int p4), .val (.int p5), .val (.ref b1), .val (.int bs), .val (.int bk), .val (.ref b10), .val (.int kd), .val (.ref b10), .val (.int (0 : Int32)), .val (.int (0 : Int32)), .val (.int (1 : Int32)), .unset]) rfl k) ?_
              show own_Gl _ _ _ _ _ _ _ (T108.setTop (mkF m 147 #[.val (.int p1), .val (.int p2), .val (.int p3), .val (.int p4), .val (.int p5), .val (.ref b1), .val (.int bs), .val (.int bk), .val (.ref b10), .val (.int kd), .val (.ref b10), .val (.int (0 : Int32)), .val (.int (0 : Int32)), .val (.int (1 : Int32)), .unset] []))
              refine own_st (fun _ k => XS.aload X108.here hx rfl (hb hby at_147) rfl rfl k) ?_
              show own_Gl _ _ _ _ _ _ _ (T108.setTop (mkF m 149 #[.val (.int p1), .val (.int p2), .val (.int p3), .val (.int p4), .val (.int p5), .val (.ref b1), .val (.int bs), .val (.int bk), .val (.ref b10), .val (.int kd), .val (.ref b10), .val (.int (0 : Int32)), .val (.int (0 : Int32)), .val (.int (1 : Int32)), .unset] [(.ref b10)]))
              refine own_st (fun _ k => XS.aload X108.here hx rfl (hb hby at_149) rfl rfl k) ?_
              show own_Gl _ _ _ _ _ _ _ (T108.setTop (mkF m 151 #[.val (.int p1), .val (.int p2), .val (.int p3), .val (.int p4), .val (.int p5), .val (.ref b1), .val (.int bs), .val (.int bk), .val (.ref b10), .val (.int kd), .val (.ref b10), .val (.int (0 : Int32)), .val (.int (0 : Int32)), .val (.int (1 : Int32)), .unset] [(.ref b1), (.ref b10)]))
              obtain ⟨cq114, kq114, q114a, q114b, q114c⟩ := isOf hZ e108 f109
              obtain ⟨_, _, ⟨T114, L114, k114, n114⟩, -, X114, ⟨Lc114, hQ114, l114, y114, z114⟩, st114⟩ := X108.virtualBack hx (y := (⟨"com/example/ewig/ewig/LogRotation", "equals", "(Ljava/lang/Object;)Z"⟩ : MethodName)) (z := (⟨"com/example/ewig/ewig/LogRotation", "equals", "(Ljava/lang/Object;)Z"⟩ : MethodName)) hown (mvT hZ (hw _ (List.mem_of_getElem? (i := 13) rfl))) (mvT hZ (hw _ (List.mem_of_getElem? (i := 14) rfl))) (notFace_of_selects (args := #[]) (mvT hZ (hw _ (List.mem_of_getElem? (i := 16) rfl)))) (mvT hZ (hw _ (List.mem_of_getElem? (i := 16) rfl))) (mvT hZ (hw _ (List.mem_of_getElem? (i := 15) rfl))) (by decide) (backOf (W := 0) (own_eq_obj l Z a0 hw [] b10 b1 bs bk p1 p2 hh13 n0 Zs15 f112 P13_0 P13_1 f110 f111) hZ (hw _ (List.mem_of_getElem? (i := 17) rfl)) (hw _ (List.mem_of_getElem? (i := 2) rfl)) (by decide) (by decide)) q114a q114c (g := (mkF m 151 #[.val (.int p1), .val (.int p2), .val (.int p3), .val (.int p4), .val (.int p5), .val (.ref b1), .val (.int bs), .val (.int bk), .val (.ref b10), .val (.int kd), .val (.ref b10), .val (.int (0 : Int32)), .val (.int (0 : Int32)), .val (.int (1 : Int32)), .unset] [(.ref b1), (.ref b10)])) rfl (by rw [hml]; rfl) (Steps.refl _) (argsL := [(.ref b1)]) (rest := []) (lenOf own_pd963338152 rfl) rfl (by show 2 * 0 + _ ≤ _; exact Nat.le_of_eq rfl) (hb hby at_151) (fun _ _ => ⟨rfl, e108, (by decide : 2 + 0 ≤ room_1.cells), (by decide : 4 + 0 ≤ room_1.slots)⟩)
              dsimp only [Pt.U, Pt.locs, Pt.cells, Pt.slots] at X114 l114 y114 z114 st114 hQ114
              subst l114 y114 z114
              obtain ⟨hh114, eh0114⟩ : ∃ z, T114.heap = z := ⟨_, rfl⟩
              rw [eh0114] at hQ114
              obtain ⟨rfl, Nq114, eh114⟩ := hQ114
              have N114 := Fr.app N108 Nq114
              refine own_tr st114 ?_
              have e114 : T114.heap = hh13 := eh0114.trans eh114
              show own_Gl _ _ _ _ _ _ _ (T114.setTop (mkF m 154 #[.val (.int p1), .val (.int p2), .val (.int p3), .val (.int p4), .val (.int p5), .val (.ref b1), .val (.int bs), .val (.int bk), .val (.ref b10), .val (.int kd), .val (.ref b10), .val (.int (0 : Int32)), .val (.int (0 : Int32)), .val (.int (1 : Int32)), .unset] [(.int (if bs = p1 then (if bk = p2 then (1 : Int32) else (0 : Int32)) else (0 : Int32)))]))
              refine own_st (fun _ k => XS.iload X114.here hx rfl (hb hby at_154) rfl k) ?_
              show own_Gl _ _ _ _ _ _ _ (T114.setTop (mkF m 156 #[.val (.int p1), .val (.int p2), .val (.int p3), .val (.int p4), .val (.int p5), .val (.ref b1), .val (.int bs), .val (.int bk), .val (.ref b10), .val (.int kd), .val (.ref b10), .val (.int (0 : Int32)), .val (.int (0 : Int32)), .val (.int (1 : Int32)), .unset] [(.int (0 : Int32)), (.int (if bs = p1 then (if bk = p2 then (1 : Int32) else (0 : Int32)) else (0 : Int32)))]))
              have hd115 : (if bs = p1 then (if bk = p2 then (1 : Int32) else (0 : Int32)) else (0 : Int32)) = (0 : Int32) := (by rw [if_pos hc94, if_neg hc100])
              refine own_st (fun _ k => XS.icmpNo X114.here hx rfl (hb hby at_156) rfl (teq hd115).2 k) ?_
              show own_Gl _ _ _ _ _ _ _ (T114.setTop (mkF m 159 #[.val (.int p1), .val (.int p2), .val (.int p3), .val (.int p4), .val (.int p5), .val (.ref b1), .val (.int bs), .val (.int bk), .val (.ref b10), .val (.int kd), .val (.ref b10), .val (.int (0 : Int32)), .val (.int (0 : Int32)), .val (.int (1 : Int32)), .unset] []))
              refine own_st (fun _ k => XS.iconst X114.here hx rfl (hb hby at_159) k) ?_
              show own_Gl _ _ _ _ _ _ _ (T114.setTop (mkF m 160 #[.val (.int p1), .val (.int p2), .val (.int p3), .val (.int p4), .val (.int p5), .val (.ref b1), .val (.int bs), .val (.int bk), .val (.ref b10), .val (.int kd), .val (.ref b10), .val (.int (0 : Int32)), .val (.int (0 : Int32)), .val (.int (1 : Int32)), .unset] [(.int (1 : Int32))]))
              refine own_st (fun _ k => XS.goto X114.here hx rfl (pc0 := 160) (pc' := 164) rfl (hb hby at_160) (by decide) (by decide) k) ?_
              show own_Gl _ _ _ _ _ _ _ (T114.setTop (mkF m 164 #[.val (.int p1), .val (.int p2), .val (.int p3), .val (.int p4), .val (.int p5), .val (.ref b1), .val (.int bs), .val (.int bk), .val (.ref b10), .val (.int kd), .val (.ref b10), .val (.int (0 : Int32)), .val (.int (0 : Int32)), .val (.int (1 : Int32)), .unset] [(.int (1 : Int32))]))
              refine own_st (fun _ k => XS.istore X114.here hx rfl (hb hby at_164) rfl (l' := #[.val (.int p1), .val (.int p2), .val (.int p3), .val (.int p4), .val (.int p5), .val (.ref b1), .val (.int bs), .val (.int bk), .val (.ref b10), .val (.int kd), .val (.ref b10), .val (.int (0 : Int32)), .val (.int (0 : Int32)), .val (.int (1 : Int32)), .val (.int (1 : Int32))]) rfl k) ?_
              show own_Gl _ _ _ _ _ _ _ (T114.setTop (mkF m 166 #[.val (.int p1), .val (.int p2), .val (.int p3), .val (.int p4), .val (.int p5), .val (.ref b1), .val (.int bs), .val (.int bk), .val (.ref b10), .val (.int kd), .val (.ref b10), .val (.int (0 : Int32)), .val (.int (0 : Int32)), .val (.int (1 : Int32)), .val (.int (1 : Int32))] []))
              refine own_st (fun _ k => XS.iload X114.here hx rfl (hb hby at_166) rfl k) ?_
              show own_Gl _ _ _ _ _ _ _ (T114.setTop (mkF m 168 #[.val (.int p1), .val (.int p2), .val (.int p3), .val (.int p4), .val (.int p5), .val (.ref b1), .val (.int bs), .val (.int bk), .val (.ref b10), .val (.int kd), .val (.ref b10), .val (.int (0 : Int32)), .val (.int (0 : Int32)), .val (.int (1 : Int32)), .val (.int (1 : Int32))] [(.int (1 : Int32))]))
              have hd116 : ¬ ((1 : Int32) = (0 : Int32)) := (by decide)
              refine own_st (fun _ k => XS.ifNo X114.here hx rfl (hb hby at_168) rfl ((if0 _ _).trans (feq hd116).1) k) ?_
              show own_Gl _ _ _ _ _ _ _ (T114.setTop (mkF m 171 #[.val (.int p1), .val (.int p2), .val (.int p3), .val (.int p4), .val (.int p5), .val (.ref b1), .val (.int bs), .val (.int bk), .val (.ref b10), .val (.int kd), .val (.ref b10), .val (.int (0 : Int32)), .val (.int (0 : Int32)), .val (.int (1 : Int32)), .val (.int (1 : Int32))] []))
              refine own_st (fun _ k => XS.iload X114.here hx rfl (hb hby at_171) rfl k) ?_
              show own_Gl _ _ _ _ _ _ _ (T114.setTop (mkF m 173 #[.val (.int p1), .val (.int p2), .val (.int p3), .val (.int p4), .val (.int p5), .val (.ref b1), .val (.int bs), .val (.int bk), .val (.ref b10), .val (.int kd), .val (.ref b10), .val (.int (0 : Int32)), .val (.int (0 : Int32)), .val (.int (1 : Int32)), .val (.int (1 : Int32))] [(.int (1 : Int32))]))
              have hd117 : ¬ ((1 : Int32) = (0 : Int32)) := (by decide)
              refine own_st (fun _ k => XS.ifNo X114.here hx rfl (hb hby at_173) rfl ((if0 _ _).trans (feq hd117).1) k) ?_
              show own_Gl _ _ _ _ _ _ _ (T114.setTop (mkF m 176 #[.val (.int p1), .val (.int p2), .val (.int p3), .val (.int p4), .val (.int p5), .val (.ref b1), .val (.int bs), .val (.int bk), .val (.ref b10), .val (.int kd), .val (.ref b10), .val (.int (0 : Int32)), .val (.int (0 : Int32)), .val (.int (1 : Int32)), .val (.int (1 : Int32))] []))
              refine own_st (fun _ k => XS.iconst X114.here hx rfl (hb hby at_176) k) ?_
              show own_Gl _ _ _ _ _ _ _ (T114.setTop (mkF m 177 #[.val (.int p1), .val (.int p2), .val (.int p3), .val (.int p4), .val (.int p5), .val (.ref b1), .val (.int bs), .val (.int bk), .val (.ref b10), .val (.int kd), .val (.ref b10), .val (.int (0 : Int32)), .val (.int (0 : Int32)), .val (.int (1 : Int32)), .val (.int (1 : Int32))] [(.int (1 : Int32))]))
              refine own_st (fun _ k => XS.goto X114.here hx rfl (pc0 := 177) (pc' := 181) rfl (hb hby at_177) (by decide) (by decide) k) ?_
              show own_Gl _ _ _ _ _ _ _ (T114.setTop (mkF m 181 #[.val (.int p1), .val (.int p2), .val (.int p3), .val (.int p4), .val (.int p5), .val (.ref b1), .val (.int bs), .val (.int bk), .val (.ref b10), .val (.int kd), .val (.ref b10), .val (.int (0 : Int32)), .val (.int (0 : Int32)), .val (.int (1 : Int32)), .val (.int (1 : Int32))] [(.int (1 : Int32))]))
              exact own_retN X114 hx hlk (t := .boolean) hret (by simp) (hb hby at_181) e114 ⟨rfl, N114⟩ (by decide) (by decide)
          · refine own_st (fun _ k => XS.icmpYes X13.here hx rfl (pc0 := 94) (pc' := 107) rfl (hb hby at_94) rfl (feq hc94).2 (by decide) (by decide) k) ?_
            show own_Gl _ _ _ _ _ _ _ (T13.setTop (mkF m 107 #[.val (.int p1), .val (.int p2), .val (.int p3), .val (.int p4), .val (.int p5), .val (.ref b1), .val (.int bs), .val (.int bk), .val (.ref b10), .val (.int kd), .val (.ref b10), .unset, .unset, .unset, .unset] []))
            refine own_st (fun _ k => XS.iconst X13.here hx rfl (hb hby at_107) k) ?_
            show own_Gl _ _ _ _ _ _ _ (T13.setTop (mkF m 108 #[.val (.int p1), .val (.int p2), .val (.int p3), .val (.int p4), .val (.int p5), .val (.ref b1), .val (.int bs), .val (.int bk), .val (.ref b10), .val (.int kd), .val (.ref b10), .unset, .unset, .unset, .unset] [(.int (0 : Int32))]))
            refine own_st (fun _ k => XS.istore X13.here hx rfl (hb hby at_108) rfl (l' := #[.val (.int p1), .val (.int p2), .val (.int p3), .val (.int p4), .val (.int p5), .val (.ref b1), .val (.int bs), .val (.int bk), .val (.ref b10), .val (.int kd), .val (.ref b10), .val (.int (0 : Int32)), .unset, .unset, .unset]) rfl k) ?_
            show own_Gl _ _ _ _ _ _ _ (T13.setTop (mkF m 110 #[.val (.int p1), .val (.int p2), .val (.int p3), .val (.int p4), .val (.int p5), .val (.ref b1), .val (.int bs), .val (.int bk), .val (.ref b10), .val (.int kd), .val (.ref b10), .val (.int (0 : Int32)), .unset, .unset, .unset] []))
            refine own_st (fun _ k => XS.iload X13.here hx rfl (hb hby at_110) rfl k) ?_
            show own_Gl _ _ _ _ _ _ _ (T13.setTop (mkF m 112 #[.val (.int p1), .val (.int p2), .val (.int p3), .val (.int p4), .val (.int p5), .val (.ref b1), .val (.int bs), .val (.int bk), .val (.ref b10), .val (.int kd), .val (.ref b10), .val (.int (0 : Int32)), .unset, .unset, .unset] [(.int kd)]))
            refine own_st (fun _ k => XS.iconst X13.here hx rfl (hb hby at_112) k) ?_
            show own_Gl _ _ _ _ _ _ _ (T13.setTop (mkF m 113 #[.val (.int p1), .val (.int p2), .val (.int p3), .val (.int p4), .val (.int p5), .val (.ref b1), .val (.int bs), .val (.int bk), .val (.ref b10), .val (.int kd), .val (.ref b10), .val (.int (0 : Int32)), .unset, .unset, .unset] [(.int (2 : Int32)), (.int kd)]))
            have hd118 : ¬ (kd < (2 : Int32)) := own_k2 _ hkr hc62 hc74
            refine own_st (fun _ k => XS.icmpNo X13.here hx rfl (hb hby at_113) rfl (flt hd118).1 k) ?_
            show own_Gl _ _ _ _ _ _ _ (T13.setTop (mkF m 116 #[.val (.int p1), .val (.int p2), .val (.int p3), .val (.int p4), .val (.int p5), .val (.ref b1), .val (.int bs), .val (.int bk), .val (.ref b10), .val (.int kd), .val (.ref b10), .val (.int (0 : Int32)), .unset, .unset, .unset] []))
            refine own_st (fun _ k => XS.iload X13.here hx rfl (hb hby at_116) rfl k) ?_
            show own_Gl _ _ _ _ _ _ _ (T13.setTop (mkF m 118 #[.val (.int p1), .val (.int p2), .val (.int p3), .val (.int p4), .val (.int p5), .val (.ref b1), .val (.int bs), .val (.int bk), .val (.ref b10), .val (.int kd), .val (.ref b10), .val (.int (0 : Int32)), .unset, .unset, .unset] [(.int (0 : Int32))]))
            have hd119 : (0 : Int32) = (0 : Int32) := (by decide)
            refine own_st (fun _ k => XS.ifYes X13.here hx rfl (pc0 := 118) (pc' := 125) rfl (hb hby at_118) rfl ((if0 _ _).trans (teq hd119).1) (by decide) (by decide) k) ?_
            show own_Gl _ _ _ _ _ _ _ (T13.setTop (mkF m 125 #[.val (.int p1), .val (.int p2), .val (.int p3), .val (.int p4), .val (.int p5), .val (.ref b1), .val (.int bs), .val (.int bk), .val (.ref b10), .val (.int kd), .val (.ref b10), .val (.int (0 : Int32)), .unset, .unset, .unset] []))
            refine own_st (fun _ k => XS.iconst X13.here hx rfl (hb hby at_125) k) ?_
            show own_Gl _ _ _ _ _ _ _ (T13.setTop (mkF m 126 #[.val (.int p1), .val (.int p2), .val (.int p3), .val (.int p4), .val (.int p5), .val (.ref b1), .val (.int bs), .val (.int bk), .val (.ref b10), .val (.int kd), .val (.ref b10), .val (.int (0 : Int32)), .unset, .unset, .unset] [(.int (0 : Int32))]))
            refine own_st (fun _ k => XS.istore X13.here hx rfl (hb hby at_126) rfl (l' := #[.val (.int p1), .val (.int p2), .val (.int p3), .val (.int p4), .val (.int p5), .val (.ref b1), .val (.int bs), .val (.int bk), .val (.ref b10), .val (.int kd), .val (.ref b10), .val (.int (0 : Int32)), .val (.int (0 : Int32)), .unset, .unset]) rfl k) ?_
            show own_Gl _ _ _ _ _ _ _ (T13.setTop (mkF m 128 #[.val (.int p1), .val (.int p2), .val (.int p3), .val (.int p4), .val (.int p5), .val (.ref b1), .val (.int bs), .val (.int bk), .val (.ref b10), .val (.int kd), .val (.ref b10), .val (.int (0 : Int32)), .val (.int (0 : Int32)), .unset, .unset] []))
            refine own_st (fun _ k => XS.aload X13.here hx rfl (hb hby at_128) rfl rfl k) ?_
            show own_Gl _ _ _ _ _ _ _ (T13.setTop (mkF m 130 #[.val (.int p1), .val (.int p2), .val (.int p3), .val (.int p4), .val (.int p5), .val (.ref b1), .val (.int bs), .val (.int bk), .val (.ref b10), .val (.int kd), .val (.ref b10), .val (.int (0 : Int32)), .val (.int (0 : Int32)), .unset, .unset] [(.ref b1)]))
            refine own_st (fun _ k => XS.aload X13.here hx rfl (hb hby at_130) rfl rfl k) ?_
            show own_Gl _ _ _ _ _ _ _ (T13.setTop (mkF m 132 #[.val (.int p1), .val (.int p2), .val (.int p3), .val (.int p4), .val (.int p5), .val (.ref b1), .val (.int bs), .val (.int bk), .val (.ref b10), .val (.int kd), .val (.ref b10), .val (.int (0 : Int32)), .val (.int (0 : Int32)), .unset, .unset] [(.ref b10), (.ref b1)]))
            have f121 := (A10.keep Kq13)
            have f122 := ((P4_0.ext E10).keep Kq13 (ninS ne_b1_b10 nin0))
            have f123 := ((P4_1.ext E10).keep Kq13 (ninS ne_b1_b10 nin0))
            have f124 := (f14.keep Kq13)
            obtain ⟨cq120, kq120, q120a, q120b, q120c⟩ := isOf hZ eh013 f124
            obtain ⟨_, _, ⟨T120, L120, k120, n120⟩, -, X120, ⟨Lc120, hQ120, l120, y120, z120⟩, st120⟩ := X13.virtualBack hx (y := (⟨"com/example/ewig/ewig/LogRotation", "equals", "(Ljava/lang/Object;)Z"⟩ : MethodName)) (z := (⟨"com/example/ewig/ewig/LogRotation", "equals", "(Ljava/lang/Object;)Z"⟩ : MethodName)) hown (mvT hZ (hw _ (List.mem_of_getElem? (i := 13) rfl))) (mvT hZ (hw _ (List.mem_of_getElem? (i := 14) rfl))) (notFace_of_selects (args := #[]) (mvT hZ (hw _ (List.mem_of_getElem? (i := 16) rfl)))) (mvT hZ (hw _ (List.mem_of_getElem? (i := 16) rfl))) (mvT hZ (hw _ (List.mem_of_getElem? (i := 15) rfl))) (by decide) (backOf (W := 0) (own_eq_obj l Z a0 hw [] b1 b10 p1 p2 bs bk hh13 n0 Zs15 f121 f122 f123 P13_0 P13_1) hZ (hw _ (List.mem_of_getElem? (i := 17) rfl)) (hw _ (List.mem_of_getElem? (i := 2) rfl)) (by decide) (by decide)) q120a q120c (g := (mkF m 132 #[.val (.int p1), .val (.int p2), .val (.int p3), .val (.int p4), .val (.int p5), .val (.ref b1), .val (.int bs), .val (.int bk), .val (.ref b10), .val (.int kd), .val (.ref b10), .val (.int (0 : Int32)), .val (.int (0 : Int32)), .unset, .unset] [(.ref b10), (.ref b1)])) rfl (by rw [hml]; rfl) (Steps.refl _) (argsL := [(.ref b10)]) (rest := []) (lenOf own_pd963338152 rfl) rfl (by show 2 * 0 + _ ≤ _; exact Nat.le_of_eq rfl) (hb hby at_132) (fun _ _ => ⟨rfl, eh013, (by decide : 2 + 0 ≤ room_1.cells), (by decide : 4 + 0 ≤ room_1.slots)⟩)
            dsimp only [Pt.U, Pt.locs, Pt.cells, Pt.slots] at X120 l120 y120 z120 st120 hQ120
            subst l120 y120 z120
            obtain ⟨hh120, eh0120⟩ : ∃ z, T120.heap = z := ⟨_, rfl⟩
            rw [eh0120] at hQ120
            obtain ⟨rfl, Nq120, eh120⟩ := hQ120
            have N120 := Fr.app N13 Nq120
            refine own_tr st120 ?_
            have e120 : T120.heap = hh13 := eh0120.trans eh120
            show own_Gl _ _ _ _ _ _ _ (T120.setTop (mkF m 135 #[.val (.int p1), .val (.int p2), .val (.int p3), .val (.int p4), .val (.int p5), .val (.ref b1), .val (.int bs), .val (.int bk), .val (.ref b10), .val (.int kd), .val (.ref b10), .val (.int (0 : Int32)), .val (.int (0 : Int32)), .unset, .unset] [(.int (if p1 = bs then (if p2 = bk then (1 : Int32) else (0 : Int32)) else (0 : Int32)))]))
            refine own_st (fun _ k => XS.iload X120.here hx rfl (hb hby at_135) rfl k) ?_
            show own_Gl _ _ _ _ _ _ _ (T120.setTop (mkF m 137 #[.val (.int p1), .val (.int p2), .val (.int p3), .val (.int p4), .val (.int p5), .val (.ref b1), .val (.int bs), .val (.int bk), .val (.ref b10), .val (.int kd), .val (.ref b10), .val (.int (0 : Int32)), .val (.int (0 : Int32)), .unset, .unset] [(.int (0 : Int32)), (.int (if p1 = bs then (if p2 = bk then (1 : Int32) else (0 : Int32)) else (0 : Int32)))]))
            have hd125 : (if p1 = bs then (if p2 = bk then (1 : Int32) else (0 : Int32)) else (0 : Int32)) = (0 : Int32) := (by rw [if_neg (Ne.symm hc94)])
            refine own_st (fun _ k => XS.icmpNo X120.here hx rfl (hb hby at_137) rfl (teq hd125).2 k) ?_
            show own_Gl _ _ _ _ _ _ _ (T120.setTop (mkF m 140 #[.val (.int p1), .val (.int p2), .val (.int p3), .val (.int p4), .val (.int p5), .val (.ref b1), .val (.int bs), .val (.int bk), .val (.ref b10), .val (.int kd), .val (.ref b10), .val (.int (0 : Int32)), .val (.int (0 : Int32)), .unset, .unset] []))
            refine own_st (fun _ k => XS.iconst X120.here hx rfl (hb hby at_140) k) ?_
            show own_Gl _ _ _ _ _ _ _ (T120.setTop (mkF m 141 #[.val (.int p1), .val (.int p2), .val (.int p3), .val (.int p4), .val (.int p5), .val (.ref b1), .val (.int bs), .val (.int bk), .val (.ref b10), .val (.int kd), .val (.ref b10), .val (.int (0 : Int32)), .val (.int (0 : Int32)), .unset, .unset] [(.int (1 : Int32))]))
            refine own_st (fun _ k => XS.goto X120.here hx rfl (pc0 := 141) (pc' := 145) rfl (hb hby at_141) (by decide) (by decide) k) ?_
            show own_Gl _ _ _ _ _ _ _ (T120.setTop (mkF m 145 #[.val (.int p1), .val (.int p2), .val (.int p3), .val (.int p4), .val (.int p5), .val (.ref b1), .val (.int bs), .val (.int bk), .val (.ref b10), .val (.int kd), .val (.ref b10), .val (.int (0 : Int32)), .val (.int (0 : Int32)), .unset, .unset] [(.int (1 : Int32))]))
            refine own_st (fun _ k => XS.istore X120.here hx rfl (hb hby at_145) rfl (l' := #[.val (.int p1), .val (.int p2), .val (.int p3), .val (.int p4), .val (.int p5), .val (.ref b1), .val (.int bs), .val (.int bk), .val (.ref b10), .val (.int kd), .val (.ref b10), .val (.int (0 : Int32)), .val (.int (0 : Int32)), .val (.int (1 : Int32)), .unset]) rfl k) ?_
            show own_Gl _ _ _ _ _ _ _ (T120.setTop (mkF m 147 #[.val (.int p1), .val (.int p2), .val (.int p3), .val (.int p4), .val (.int p5), .val (.ref b1), .val (.int bs), .val (.int bk), .val (.ref b10), .val (.int kd), .val (.ref b10), .val (.int (0 : Int32)), .val (.int (0 : Int32)), .val (.int (1 : Int32)), .unset] []))
            refine own_st (fun _ k => XS.aload X120.here hx rfl (hb hby at_147) rfl rfl k) ?_
            show own_Gl _ _ _ _ _ _ _ (T120.setTop (mkF m 149 #[.val (.int p1), .val (.int p2), .val (.int p3), .val (.int p4), .val (.int p5), .val (.ref b1), .val (.int bs), .val (.int bk), .val (.ref b10), .val (.int kd), .val (.ref b10), .val (.int (0 : Int32)), .val (.int (0 : Int32)), .val (.int (1 : Int32)), .unset] [(.ref b10)]))
            refine own_st (fun _ k => XS.aload X120.here hx rfl (hb hby at_149) rfl rfl k) ?_
            show own_Gl _ _ _ _ _ _ _ (T120.setTop (mkF m 151 #[.val (.int p1), .val (.int p2), .val (.int p3), .val (.int p4), .val (.int p5), .val (.ref b1), .val (.int bs), .val (.int bk), .val (.ref b10), .val (.int kd), .val (.ref b10), .val (.int (0 : Int32)), .val (.int (0 : Int32)), .val (.int (1 : Int32)), .unset] [(.ref b1), (.ref b10)]))
            obtain ⟨cq126, kq126, q126a, q126b, q126c⟩ := isOf hZ e120 f121
            obtain ⟨_, _, ⟨T126, L126, k126, n126⟩, -, X126, ⟨Lc126, hQ126, l126, y126, z126⟩, st126⟩ := X120.virtualBack hx (y := (⟨"com/example/ewig/ewig/LogRotation", "equals", "(Ljava/lang/Object;)Z"⟩ : MethodName)) (z := (⟨"com/example/ewig/ewig/LogRotation", "equals", "(Ljava/lang/Object;)Z"⟩ : MethodName)) hown (mvT hZ (hw _ (List.mem_of_getElem? (i := 13) rfl))) (mvT hZ (hw _ (List.mem_of_getElem? (i := 14) rfl))) (notFace_of_selects (args := #[]) (mvT hZ (hw _ (List.mem_of_getElem? (i := 16) rfl)))) (mvT hZ (hw _ (List.mem_of_getElem? (i := 16) rfl))) (mvT hZ (hw _ (List.mem_of_getElem? (i := 15) rfl))) (by decide) (backOf (W := 0) (own_eq_obj l Z a0 hw [] b10 b1 bs bk p1 p2 hh13 n0 Zs15 f124 P13_0 P13_1 f122 f123) hZ (hw _ (List.mem_of_getElem? (i := 17) rfl)) (hw _ (List.mem_of_getElem? (i := 2) rfl)) (by decide) (by decide)) q126a q126c (g := (mkF m 151 #[.val (.int p1), .val (.int p2), .val (.int p3), .val (.int p4), .val (.int p5), .val (.ref b1), .val (.int bs), .val (.int bk), .val (.ref b10), .val (.int kd), .val (.ref b10), .val (.int (0 : Int32)), .val (.int (0 : Int32)), .val (.int (1 : Int32)), .unset] [(.ref b1), (.ref b10)])) rfl (by rw [hml]; rfl) (Steps.refl _) (argsL := [(.ref b1)]) (rest := []) (lenOf own_pd963338152 rfl) rfl (by show 2 * 0 + _ ≤ _; exact Nat.le_of_eq rfl) (hb hby at_151) (fun _ _ => ⟨rfl, e120, (by decide : 2 + 0 ≤ room_1.cells), (by decide : 4 + 0 ≤ room_1.slots)⟩)
            dsimp only [Pt.U, Pt.locs, Pt.cells, Pt.slots] at X126 l126 y126 z126 st126 hQ126
            subst l126 y126 z126
            obtain ⟨hh126, eh0126⟩ : ∃ z, T126.heap = z := ⟨_, rfl⟩
            rw [eh0126] at hQ126
            obtain ⟨rfl, Nq126, eh126⟩ := hQ126
            have N126 := Fr.app N120 Nq126
            refine own_tr st126 ?_
            have e126 : T126.heap = hh13 := eh0126.trans eh126
            show own_Gl _ _ _ _ _ _ _ (T126.setTop (mkF m 154 #[.val (.int p1), .val (.int p2), .val (.int p3), .val (.int p4), .val (.int p5), .val (.ref b1), .val (.int bs), .val (.int bk), .val (.ref b10), .val (.int kd), .val (.ref b10), .val (.int (0 : Int32)), .val (.int (0 : Int32)), .val (.int (1 : Int32)), .unset] [(.int (if bs = p1 then (if bk = p2 then (1 : Int32) else (0 : Int32)) else (0 : Int32)))]))
            refine own_st (fun _ k => XS.iload X126.here hx rfl (hb hby at_154) rfl k) ?_
            show own_Gl _ _ _ _ _ _ _ (T126.setTop (mkF m 156 #[.val (.int p1), .val (.int p2), .val (.int p3), .val (.int p4), .val (.int p5), .val (.ref b1), .val (.int bs), .val (.int bk), .val (.ref b10), .val (.int kd), .val (.ref b10), .val (.int (0 : Int32)), .val (.int (0 : Int32)), .val (.int (1 : Int32)), .unset] [(.int (0 : Int32)), (.int (if bs = p1 then (if bk = p2 then (1 : Int32) else (0 : Int32)) else (0 : Int32)))]))
            have hd127 : (if bs = p1 then (if bk = p2 then (1 : Int32) else (0 : Int32)) else (0 : Int32)) = (0 : Int32) := (by rw [if_neg hc94])
            refine own_st (fun _ k => XS.icmpNo X126.here hx rfl (hb hby at_156) rfl (teq hd127).2 k) ?_
            show own_Gl _ _ _ _ _ _ _ (T126.setTop (mkF m 159 #[.val (.int p1), .val (.int p2), .val (.int p3), .val (.int p4), .val (.int p5), .val (.ref b1), .val (.int bs), .val (.int bk), .val (.ref b10), .val (.int kd), .val (.ref b10), .val (.int (0 : Int32)), .val (.int (0 : Int32)), .val (.int (1 : Int32)), .unset] []))
            refine own_st (fun _ k => XS.iconst X126.here hx rfl (hb hby at_159) k) ?_
            show own_Gl _ _ _ _ _ _ _ (T126.setTop (mkF m 160 #[.val (.int p1), .val (.int p2), .val (.int p3), .val (.int p4), .val (.int p5), .val (.ref b1), .val (.int bs), .val (.int bk), .val (.ref b10), .val (.int kd), .val (.ref b10), .val (.int (0 : Int32)), .val (.int (0 : Int32)), .val (.int (1 : Int32)), .unset] [(.int (1 : Int32))]))
            refine own_st (fun _ k => XS.goto X126.here hx rfl (pc0 := 160) (pc' := 164) rfl (hb hby at_160) (by decide) (by decide) k) ?_
            show own_Gl _ _ _ _ _ _ _ (T126.setTop (mkF m 164 #[.val (.int p1), .val (.int p2), .val (.int p3), .val (.int p4), .val (.int p5), .val (.ref b1), .val (.int bs), .val (.int bk), .val (.ref b10), .val (.int kd), .val (.ref b10), .val (.int (0 : Int32)), .val (.int (0 : Int32)), .val (.int (1 : Int32)), .unset] [(.int (1 : Int32))]))
            refine own_st (fun _ k => XS.istore X126.here hx rfl (hb hby at_164) rfl (l' := #[.val (.int p1), .val (.int p2), .val (.int p3), .val (.int p4), .val (.int p5), .val (.ref b1), .val (.int bs), .val (.int bk), .val (.ref b10), .val (.int kd), .val (.ref b10), .val (.int (0 : Int32)), .val (.int (0 : Int32)), .val (.int (1 : Int32)), .val (.int (1 : Int32))]) rfl k) ?_
            show own_Gl _ _ _ _ _ _ _ (T126.setTop (mkF m 166 #[.val (.int p1), .val (.int p2), .val (.int p3), .val (.int p4), .val (.int p5), .val (.ref b1), .val (.int bs), .val (.int bk), .val (.ref b10), .val (.int kd), .val (.ref b10), .val (.int (0 : Int32)), .val (.int (0 : Int32)), .val (.int (1 : Int32)), .val (.int (1 : Int32))] []))
            refine own_st (fun _ k => XS.iload X126.here hx rfl (hb hby at_166) rfl k) ?_
            show own_Gl _ _ _ _ _ _ _ (T126.setTop (mkF m 168 #[.val (.int p1), .val (.int p2), .val (.int p3), .val (.int p4), .val (.int p5), .val (.ref b1), .val (.int bs), .val (.int bk), .val (.ref b10), .val (.int kd), .val (.ref b10), .val (.int (0 : Int32)), .val (.int (0 : Int32)), .val (.int (1 : Int32)), .val (.int (1 : Int32))] [(.int (1 : Int32))]))
            have hd128 : ¬ ((1 : Int32) = (0 : Int32)) := (by decide)
            refine own_st (fun _ k => XS.ifNo X126.here hx rfl (hb hby at_168) rfl ((if0 _ _).trans (feq hd128).1) k) ?_
            show own_Gl _ _ _ _ _ _ _ (T126.setTop (mkF m 171 #[.val (.int p1), .val (.int p2), .val (.int p3), .val (.int p4), .val (.int p5), .val (.ref b1), .val (.int bs), .val (.int bk), .val (.ref b10), .val (.int kd), .val (.ref b10), .val (.int (0 : Int32)), .val (.int (0 : Int32)), .val (.int (1 : Int32)), .val (.int (1 : Int32))] []))
            refine own_st (fun _ k => XS.iload X126.here hx rfl (hb hby at_171) rfl k) ?_
            show own_Gl _ _ _ _ _ _ _ (T126.setTop (mkF m 173 #[.val (.int p1), .val (.int p2), .val (.int p3), .val (.int p4), .val (.int p5), .val (.ref b1), .val (.int bs), .val (.int bk), .val (.ref b10), .val (.int kd), .val (.ref b10), .val (.int (0 : Int32)), .val (.int (0 : Int32)), .val (.int (1 : Int32)), .val (.int (1 : Int32))] [(.int (1 : Int32))]))
            have hd129 : ¬ ((1 : Int32) = (0 : Int32)) := (by decide)
            refine own_st (fun _ k => XS.ifNo X126.here hx rfl (hb hby at_173) rfl ((if0 _ _).trans (feq hd129).1) k) ?_
            show own_Gl _ _ _ _ _ _ _ (T126.setTop (mkF m 176 #[.val (.int p1), .val (.int p2), .val (.int p3), .val (.int p4), .val (.int p5), .val (.ref b1), .val (.int bs), .val (.int bk), .val (.ref b10), .val (.int kd), .val (.ref b10), .val (.int (0 : Int32)), .val (.int (0 : Int32)), .val (.int (1 : Int32)), .val (.int (1 : Int32))] []))
            refine own_st (fun _ k => XS.iconst X126.here hx rfl (hb hby at_176) k) ?_
            show own_Gl _ _ _ _ _ _ _ (T126.setTop (mkF m 177 #[.val (.int p1), .val (.int p2), .val (.int p3), .val (.int p4), .val (.int p5), .val (.ref b1), .val (.int bs), .val (.int bk), .val (.ref b10), .val (.int kd), .val (.ref b10), .val (.int (0 : Int32)), .val (.int (0 : Int32)), .val (.int (1 : Int32)), .val (.int (1 : Int32))] [(.int (1 : Int32))]))
            refine own_st (fun _ k => XS.goto X126.here hx rfl (pc0 := 177) (pc' := 181) rfl (hb hby at_177) (by decide) (by decide) k) ?_
            show own_Gl _ _ _ _ _ _ _ (T126.setTop (mkF m 181 #[.val (.int p1), .val (.int p2), .val (.int p3), .val (.int p4), .val (.int p5), .val (.ref b1), .val (.int bs), .val (.int bk), .val (.ref b10), .val (.int kd), .val (.ref b10), .val (.int (0 : Int32)), .val (.int (0 : Int32)), .val (.int (1 : Int32)), .val (.int (1 : Int32))] [(.int (1 : Int32))]))
            exact own_retN X126 hx hlk (t := .boolean) hret (by simp) (hb hby at_181) e126 ⟨rfl, N126⟩ (by decide) (by decide)
    refine own_st (fun _ k => XS.iconst X6.here hx rfl (hb hby at_27) k) ?_
    show own_Gl _ _ _ _ _ _ _ (T6.setTop (mkF m 28 #[.val (.int p1), .val (.int p2), .val (.int p3), .val (.int p4), .val (.int p5), .val (.ref b1), .val (.int bs), .unset, .unset, .unset, .unset, .unset, .unset, .unset, .unset] [(.int (2 : Int32)), (.int p5)]))
    refine own_st (fun _ k => XS.iand X6.here hx rfl (hb hby at_28) rfl k) ?_
    show own_Gl _ _ _ _ _ _ _ (T6.setTop (mkF m 29 #[.val (.int p1), .val (.int p2), .val (.int p3), .val (.int p4), .val (.int p5), .val (.ref b1), .val (.int bs), .unset, .unset, .unset, .unset, .unset, .unset, .unset, .unset] [(.int (p5 &&& (2 : Int32)))]))
    by_cases hc29 : (p5 &&& (2 : Int32)) = (0 : Int32)
    · refine own_st (fun _ k => XS.ifYes X6.here hx rfl (pc0 := 29) (pc' := 36) rfl (hb hby at_29) rfl ((if0 _ _).trans (teq hc29).1) (by decide) (by decide) k) ?_
      show own_Gl _ _ _ _ _ _ _ (T6.setTop (mkF m 36 #[.val (.int p1), .val (.int p2), .val (.int p3), .val (.int p4), .val (.int p5), .val (.ref b1), .val (.int bs), .unset, .unset, .unset, .unset, .unset, .unset, .unset, .unset] []))
      refine own_st (fun _ k => XS.iloadN X6.here hx rfl (hb hby at_36) rfl k) ?_
      show own_Gl _ _ _ _ _ _ _ (T6.setTop (mkF m 37 #[.val (.int p1), .val (.int p2), .val (.int p3), .val (.int p4), .val (.int p5), .val (.ref b1), .val (.int bs), .unset, .unset, .unset, .unset, .unset, .unset, .unset, .unset] [(.int p4)]))
      refine own_st (fun _ k => XS.istore X6.here hx rfl (hb hby at_37) rfl (l' := #[.val (.int p1), .val (.int p2), .val (.int p3), .val (.int p4), .val (.int p5), .val (.ref b1), .val (.int bs), .val (.int p4), .unset, .unset, .unset, .unset, .unset, .unset, .unset]) rfl k) ?_
      show own_Gl _ _ _ _ _ _ _ (T6.setTop (mkF m 39 #[.val (.int p1), .val (.int p2), .val (.int p3), .val (.int p4), .val (.int p5), .val (.ref b1), .val (.int bs), .val (.int p4), .unset, .unset, .unset, .unset, .unset, .unset, .unset] []))
      show own_Gl _ _ _ _ _ _ _ (T6.setTop (mkF m 39 #[.val (.int p1), .val (.int p2), .val (.int p3), .val (.int p4), .val (.int p5), .val (.ref b1), .val (.int bs), .val (.int p4), .unset, .unset, .unset, .unset, .unset, .unset, .unset] []))
      exact J39_7 T6 _ N6 X6 e6 (p4)
    · refine own_st (fun _ k => XS.ifNo X6.here hx rfl (hb hby at_29) rfl ((if0 _ _).trans (feq hc29).1) k) ?_
      show own_Gl _ _ _ _ _ _ _ (T6.setTop (mkF m 32 #[.val (.int p1), .val (.int p2), .val (.int p3), .val (.int p4), .val (.int p5), .val (.ref b1), .val (.int bs), .unset, .unset, .unset, .unset, .unset, .unset, .unset, .unset] []))
      refine own_st (fun _ k => XS.iloadN X6.here hx rfl (hb hby at_32) rfl k) ?_
      show own_Gl _ _ _ _ _ _ _ (T6.setTop (mkF m 33 #[.val (.int p1), .val (.int p2), .val (.int p3), .val (.int p4), .val (.int p5), .val (.ref b1), .val (.int bs), .unset, .unset, .unset, .unset, .unset, .unset, .unset, .unset] [(.int p2)]))
      refine own_st (fun _ k => XS.goto X6.here hx rfl (pc0 := 33) (pc' := 37) rfl (hb hby at_33) (by decide) (by decide) k) ?_
      show own_Gl _ _ _ _ _ _ _ (T6.setTop (mkF m 37 #[.val (.int p1), .val (.int p2), .val (.int p3), .val (.int p4), .val (.int p5), .val (.ref b1), .val (.int bs), .unset, .unset, .unset, .unset, .unset, .unset, .unset, .unset] [(.int p2)]))
      refine own_st (fun _ k => XS.istore X6.here hx rfl (hb hby at_37) rfl (l' := #[.val (.int p1), .val (.int p2), .val (.int p3), .val (.int p4), .val (.int p5), .val (.ref b1), .val (.int bs), .val (.int p2), .unset, .unset, .unset, .unset, .unset, .unset, .unset]) rfl k) ?_
      show own_Gl _ _ _ _ _ _ _ (T6.setTop (mkF m 39 #[.val (.int p1), .val (.int p2), .val (.int p3), .val (.int p4), .val (.int p5), .val (.ref b1), .val (.int bs), .val (.int p2), .unset, .unset, .unset, .unset, .unset, .unset, .unset] []))
      show own_Gl _ _ _ _ _ _ _ (T6.setTop (mkF m 39 #[.val (.int p1), .val (.int p2), .val (.int p3), .val (.int p4), .val (.int p5), .val (.ref b1), .val (.int bs), .val (.int p2), .unset, .unset, .unset, .unset, .unset, .unset, .unset] []))
      exact J39_7 T6 _ N6 X6 e6 (p2)
  refine own_st (fun _ k => XS.iload X4.here hx rfl (hb hby at_11) rfl k) ?_
  show own_Gl _ _ _ _ _ _ _ (T4.setTop (mkF m 13 #[.val (.int p1), .val (.int p2), .val (.int p3), .val (.int p4), .val (.int p5), .val (.ref b1), .unset, .unset, .unset, .unset, .unset, .unset, .unset, .unset, .unset] [(.int p5)]))
  refine own_st (fun _ k => XS.iconst X4.here hx rfl (hb hby at_13) k) ?_
  show own_Gl _ _ _ _ _ _ _ (T4.setTop (mkF m 14 #[.val (.int p1), .val (.int p2), .val (.int p3), .val (.int p4), .val (.int p5), .val (.ref b1), .unset, .unset, .unset, .unset, .unset, .unset, .unset, .unset, .unset] [(.int (1 : Int32)), (.int p5)]))
  refine own_st (fun _ k => XS.iand X4.here hx rfl (hb hby at_14) rfl k) ?_
  show own_Gl _ _ _ _ _ _ _ (T4.setTop (mkF m 15 #[.val (.int p1), .val (.int p2), .val (.int p3), .val (.int p4), .val (.int p5), .val (.ref b1), .unset, .unset, .unset, .unset, .unset, .unset, .unset, .unset, .unset] [(.int (p5 &&& (1 : Int32)))]))
  by_cases hc15 : (p5 &&& (1 : Int32)) = (0 : Int32)
  · refine own_st (fun _ k => XS.ifYes X4.here hx rfl (pc0 := 15) (pc' := 22) rfl (hb hby at_15) rfl ((if0 _ _).trans (teq hc15).1) (by decide) (by decide) k) ?_
    show own_Gl _ _ _ _ _ _ _ (T4.setTop (mkF m 22 #[.val (.int p1), .val (.int p2), .val (.int p3), .val (.int p4), .val (.int p5), .val (.ref b1), .unset, .unset, .unset, .unset, .unset, .unset, .unset, .unset, .unset] []))
    refine own_st (fun _ k => XS.iloadN X4.here hx rfl (hb hby at_22) rfl k) ?_
    show own_Gl _ _ _ _ _ _ _ (T4.setTop (mkF m 23 #[.val (.int p1), .val (.int p2), .val (.int p3), .val (.int p4), .val (.int p5), .val (.ref b1), .unset, .unset, .unset, .unset, .unset, .unset, .unset, .unset, .unset] [(.int p3)]))
    refine own_st (fun _ k => XS.istore X4.here hx rfl (hb hby at_23) rfl (l' := #[.val (.int p1), .val (.int p2), .val (.int p3), .val (.int p4), .val (.int p5), .val (.ref b1), .val (.int p3), .unset, .unset, .unset, .unset, .unset, .unset, .unset, .unset]) rfl k) ?_
    show own_Gl _ _ _ _ _ _ _ (T4.setTop (mkF m 25 #[.val (.int p1), .val (.int p2), .val (.int p3), .val (.int p4), .val (.int p5), .val (.ref b1), .val (.int p3), .unset, .unset, .unset, .unset, .unset, .unset, .unset, .unset] []))
    show own_Gl _ _ _ _ _ _ _ (T4.setTop (mkF m 25 #[.val (.int p1), .val (.int p2), .val (.int p3), .val (.int p4), .val (.int p5), .val (.ref b1), .val (.int p3), .unset, .unset, .unset, .unset, .unset, .unset, .unset, .unset] []))
    exact J25_6 T4 _ N4 X4 eh04 (p3)
  · refine own_st (fun _ k => XS.ifNo X4.here hx rfl (hb hby at_15) rfl ((if0 _ _).trans (feq hc15).1) k) ?_
    show own_Gl _ _ _ _ _ _ _ (T4.setTop (mkF m 18 #[.val (.int p1), .val (.int p2), .val (.int p3), .val (.int p4), .val (.int p5), .val (.ref b1), .unset, .unset, .unset, .unset, .unset, .unset, .unset, .unset, .unset] []))
    refine own_st (fun _ k => XS.iloadN X4.here hx rfl (hb hby at_18) rfl k) ?_
    show own_Gl _ _ _ _ _ _ _ (T4.setTop (mkF m 19 #[.val (.int p1), .val (.int p2), .val (.int p3), .val (.int p4), .val (.int p5), .val (.ref b1), .unset, .unset, .unset, .unset, .unset, .unset, .unset, .unset, .unset] [(.int p1)]))
    refine own_st (fun _ k => XS.goto X4.here hx rfl (pc0 := 19) (pc' := 23) rfl (hb hby at_19) (by decide) (by decide) k) ?_
    show own_Gl _ _ _ _ _ _ _ (T4.setTop (mkF m 23 #[.val (.int p1), .val (.int p2), .val (.int p3), .val (.int p4), .val (.int p5), .val (.ref b1), .unset, .unset, .unset, .unset, .unset, .unset, .unset, .unset, .unset] [(.int p1)]))
    refine own_st (fun _ k => XS.istore X4.here hx rfl (hb hby at_23) rfl (l' := #[.val (.int p1), .val (.int p2), .val (.int p3), .val (.int p4), .val (.int p5), .val (.ref b1), .val (.int p1), .unset, .unset, .unset, .unset, .unset, .unset, .unset, .unset]) rfl k) ?_
    show own_Gl _ _ _ _ _ _ _ (T4.setTop (mkF m 25 #[.val (.int p1), .val (.int p2), .val (.int p3), .val (.int p4), .val (.int p5), .val (.ref b1), .val (.int p1), .unset, .unset, .unset, .unset, .unset, .unset, .unset, .unset] []))
    show own_Gl _ _ _ _ _ _ _ (T4.setTop (mkF m 25 #[.val (.int p1), .val (.int p2), .val (.int p3), .val (.int p4), .val (.int p5), .val (.ref b1), .val (.int p1), .unset, .unset, .unset, .unset, .unset, .unset, .unset, .unset] []))
    exact J25_6 T4 _ N4 X4 eh04 (p1)
set_option maxRecDepth 65536 in
set_option maxHeartbeats 40000000 in
theorem comes_1 {Post : Tables → Env → Array Value → State → Outcome → State → Prop} (hpost : ∀ tb e args s v u, (limb_1_1.after args s (.returned v) u = true ∧ limb_1_2.after args s (.returned v) u = true ∧ True) → FrameEnd s (.returned v) u (Jvm.fieldLocs frame_1_writes args s ++ Jvm.arrayLocs frame_1_arrays args s ++ Jvm.staticLocs frame_1_statics s) 16 128 → Post tb e args s (.returned v) u) :
    ArmFor flags0 classFile x code maxLocals ret World_1 tables_1 room_1 Calls_1 rest_1 Pre_1 Post := by
  intro l hfl _ _ p e ha hc hk s m args below hf hA hF happ hP
  obtain ⟨hcalls, hrest, hpre⟩ := hP
  obtain ⟨-, -, -, hnamed, -, -, -, hat⟩ := (Spec.applies_iff hf).mp happ
  obtain ⟨hg, hn⟩ := and_e (Cond.before_iff.mp (show (Jvm.Cond.and given_1 narrow_1).before args s = true from hpre))
  obtain ⟨gg1, gg2⟩ := and_e hg
  obtain ⟨gg3, gg4⟩ := and_e gg2
  obtain ⟨gg5, gg6⟩ := and_e gg4
  obtain ⟨gg7, gg8⟩ := and_e gg6
  obtain ⟨gg9, gg10⟩ := and_e gg8
  obtain ⟨w0, w1, w2, w3, w4, rfl⟩ : ∃ w0 w1 w2 w3 w4 : Value, args = #[w0, w1, w2, w3, w4] := by
    have hs : args.size = 5 := by simpa [Cond.value, given_1] using gg1
    obtain ⟨L⟩ := args
    match L, hs with
    | [w0, w1, w2, w3, w4], _ => exact ⟨w0, w1, w2, w3, w4, rfl⟩
  have hw := fun d (hd : d ∈ tables_1) => atoms_spec (ws := Jvm.Cond.code x code maxLocals ret :: tables_1) hat d (List.mem_cons_of_mem _ hd)
  have hfit : Fit s := fun {y c} hc i hi => by
    obtain ⟨ha, rfl⟩ := Array.getElem?_eq_some_iff.mp hc
    have q := List.all_eq_true.mp ((Array.all_eq_true_iff_forall_mem.mp hF) _ (Array.getElem_mem ha)) i (List.mem_range.mpr hi)
    simpa [Array.getElem?_eq_getElem hi] using q
  obtain ⟨hsets, hown0⟩ := atoms_of _ (rest_1_c_eq ▸ (show rest_1_c.before _ s = true from hrest))
  have hr0 := Cond.before_iff.mp hown0
  obtain ⟨i0, ei0⟩ := is_v gg3
  obtain rfl : w0 = (.int i0) := Option.some.inj ei0
  obtain ⟨i1, ei1⟩ := is_v gg5
  obtain rfl : w1 = (.int i1) := Option.some.inj ei1
  obtain ⟨i2, ei2⟩ := is_v gg7
  obtain rfl : w2 = (.int i2) := Option.some.inj ei2
  obtain ⟨i3, ei3⟩ := is_v gg9
  obtain rfl : w3 = (.int i3) := Option.some.inj ei3
  obtain ⟨i4, ei4⟩ := is_v gg10
  obtain rfl : w4 = (.int i4) := Option.some.inj ei4
  have ev_high := own_sta_int (hsets _ (List.mem_of_getElem? (i := 3) rfl))
  have xs_high := Sta.start ev_high (Or.inl (hsets _ (List.mem_of_getElem? (i := 1) rfl)))
  obtain ⟨ca, ev_c⟩ := arr_v (Cond.before_iff.mp (hsets _ (List.mem_of_getElem? (i := 4) rfl)))
  obtain ⟨ccl, xarr⟩ := Arr.start ev_c (Cond.before_iff.mp (hsets _ (List.mem_of_getElem? (i := 4) rfl)))
  have xs_c := Sta.start ev_c (Or.inr ⟨(hw _ (List.mem_of_getElem? (i := 25) rfl)), (hsets _ (List.mem_of_getElem? (i := 2) rfl))⟩)
  obtain ⟨xsz, xlen⟩ := Jvm.Free.IntBox.length_fwd (hsets _ (List.mem_of_getElem? (i := 6) rfl)) ev_c xarr.1 xarr.2.1 xarr.2.2
  have x256 := own_256 xsz xlen
  have xhat := Jvm.Free.IntBox.arrayAt_of xarr.1 xarr.2.1 xarr.2.2
  have xall := Cond.all_elim ev_c xhat (Cond.before_iff.mp (hsets _ (List.mem_of_getElem? (i := 7) rfl)))
  have xcache : ∀ j : Int32, ¬ j < 0 → j < (256 : Int32) → ∃ r : Addr, ccl.slots[j.toNatClampNeg]? = some (.ref r) ∧ Exa s s.heap r "java/lang/Integer" := by
    intro j hj0 hj1
    have hlt : j.toNatClampNeg < ccl.slots.size := by
      have q := inb_of (c := ccl) (z := (256 : Int32)) x256 ⟨hj0, hj1⟩
      exact Nat.lt_of_not_le fun y => q (Or.inr y)
    obtain ⟨q1, -⟩ := and_e (xall _ hlt)
    obtain ⟨r, evr⟩ := exa_v q1
    exact ⟨r, (elem_in evr ev_c (idx_at hj0) xarr.1).2, exa_at evr q1⟩
  obtain ⟨n, o, h1, h2, h3, _, L, rfl, ⟨rfl, N⟩, hq⟩ := own_law l s _ hw tables_1 i0 i1 i2 i3 i4 ca ccl s.heap s.heap.size (Nat.le_refl _) (Old.start s) xs_high xs_c xarr x256 xcache p e ha hc hk s m _ below hf ((Spec.applies_iff_loose hf).mp happ).1 ⟨rfl, State.Warmed39.refl s, rfl⟩ trivial
  refine ⟨n, _, h1, h2, h3, hpost _ _ _ _ _ _ ⟨Cond.after_iff.mpr rfl, Cond.after_iff.mpr (eq_i res_at (Term.int_eval (1)) rfl), trivial⟩ ⟨hq.1, hq.2.1, (hq.2.2.sift fun y hy => Or.inr (N y hy)).mono (by decide) (by decide)⟩⟩
theorem main_1_1 : Claimed_1_1 := comes_1 fun _ _ _ _ _ _ h hF => ⟨h.1, hF⟩
theorem main_1_2 : Claimed_1_2 := comes_1 fun _ _ _ _ _ _ h hF => ⟨h.2.1, hF⟩

end Jvm.Pilot.@@N@@
namespace Jvm.Pilot.@@N@@
open Jvm Jvm.ClassFile Sem Op Lib Jvm.Free Jvm.Stand Jvm.Pilot.@@N@@.Jvm.D
/-! MADE BY PROGRAM (witnessworld.py) out of the Statement's table words and the real class files: 16 classes; the members and pool entries that the words name. The judged class is class 1, her method 1. -/
namespace start1
open Jvm.ClassFile
def u (s : String) : CpInfo := .utf8 (stringToUtf16 s)
/-- a pool by its gaps: so many unusable entries, then the entry; so many at the end -/
def gap : Nat → List CpInfo → List CpInfo
  | 0, r => r
  | n + 1, r => .unusable :: gap n r
def poolList (es : List (Nat × CpInfo)) (last : Nat) : List CpInfo := es.foldr (fun e r => gap e.1 (e.2 :: r)) (gap last [])
def pool (es : List (Nat × CpInfo)) (last : Nat) : Array CpInfo := ⟨poolList es last⟩
def fileOf (pool : Array CpInfo) (this : Nat) (attrs : Array Attribute := #[]) (ms : Array MethodInfo := #[]) (fl : Nat := 33) (sup : Nat := 0) (ifs : Array Nat := #[]) (fds : Array FieldInfo := #[]) : ClassFile where
  minorVersion := 0
  majorVersion := 65
  constantPool := pool
  accessFlags := fl
  thisClass := this
  superClass := sup
  interfaces := ifs
  fields := fds
  methods := ms
  attributes := attrs
def plain (name : String) (sup : Option ClassId) : Class where
  name := name
  kind := .ordinary
  loader := none
  accessFlags := 33
  super := sup
  interfaces := #[]
  cf := none
  fields := #[]
  methods := #[]
  instanceTypes := #[]
  staticTypes := #[]
  resolved := #[]
  callSites := []
  init := .initialized
  statics := none
  mirror := none

def pool0 : Array CpInfo := pool [(5, u "<init>"), (0, u "()V"), (1, .class_ 10), (1, u "java/lang/Object")] 113

def k0c0 : Code := { maxStack := 0, maxLocals := 1, code := object_method_1_code, exceptionTable := #[], attributes := #[] }
def k0m0 : Method := { name := "<init>", desc := "()V", sig := { parameters := [], returnType := none }, accessFlags := 1, code := some k0c0 }
/-- java/lang/Object -/
def k0 : Class := { plain "java/lang/Object" none with
  accessFlags := 33
  interfaces := #[]
  cf := some (fileOf pool0 8 #[] #[{ accessFlags := 1, nameIndex := 5, descriptorIndex := 6, attributes := #[] }] 33 0 #[] #[])
  fields := #[]
  methods := #[k0m0]
  instanceTypes := #[]
  staticTypes := #[]
  resolved := Array.replicate 124 none
  statics := none }

def pool1 : Array CpInfo := pool [(2, .class_ 4), (1, u "java/lang/Object"), (0, u "<init>"), (0, u "()V"), (0, .class_ 8), (0, u "com/example/ewig/ewig/LogRotation"), (0, .methodref 7 10), (0, .nameAndType 5 11), (0, u "(II)V"), (0, .methodref 13 14), (0, .class_ 15), (0, .nameAndType 16 17), (0, u "java/lang/Integer"), (0, u "valueOf"), (0, u "(I)Ljava/lang/Integer;"), (0, .methodref 7 19), (0, .nameAndType 20 21), (0, u "equals"), (0, u "(Ljava/lang/Object;)Z"), (0, .class_ 23), (0, u "com/example/ewig/ewig/LogRotationEqualsPinLaw"), (2, u "law"), (0, u "(IIIII)Z")] 3

def k1m0 : Method := { name := "<init>", desc := "()V", sig := { parameters := [], returnType := none }, accessFlags := 1, code := none }
def k1c1 : Code := { maxStack := 4, maxLocals := 15, code := code, exceptionTable := #[], attributes := #[] }
def k1m1 : Method := { name := "law", desc := "(IIIII)Z", sig := { parameters := [.int, .int, .int, .int, .int], returnType := some .boolean }, accessFlags := 9, code := some k1c1 }
/-- com/example/ewig/ewig/LogRotationEqualsPinLaw -/
def k1 : Class := { plain "com/example/ewig/ewig/LogRotationEqualsPinLaw" (some 0) with
  accessFlags := 49
  interfaces := #[]
  cf := some (fileOf pool1 22 #[] #[{ accessFlags := 1, nameIndex := 5, descriptorIndex := 6, attributes := #[] }, { accessFlags := 9, nameIndex := 26, descriptorIndex := 27, attributes := #[] }] 49 2 #[] #[])
  fields := #[]
  methods := #[k1m0, k1m1]
  instanceTypes := #[]
  staticTypes := #[]
  resolved := Array.replicate 31 none
  statics := none }

def pool2 : Array CpInfo := pool [(1, .methodref 2 3), (0, .class_ 4), (0, .nameAndType 5 6), (0, u "java/lang/Object"), (0, u "<init>"), (0, u "()V"), (0, .fieldref 8 9), (0, .class_ 10), (0, .nameAndType 11 12), (0, u "com/example/ewig/ewig/LogRotation"), (0, u "size"), (0, u "I"), (0, .fieldref 8 14), (0, .nameAndType 15 12), (0, u "keep"), (7, u "(II)V"), (2, u "DEFAULT"), (0, u "Lcom/example/ewig/ewig/LogRotation;"), (3, u "equals"), (0, u "(Ljava/lang/Object;)Z")] 22

def k2c0 : Code := { maxStack := 2, maxLocals := 3, code := prog_4_method_1_code, exceptionTable := #[], attributes := #[] }
def k2m0 : Method := { name := "<init>", desc := "(II)V", sig := { parameters := [.int, .int], returnType := none }, accessFlags := 0, code := some k2c0 }
def k2c1 : Code := { maxStack := 2, maxLocals := 3, code := prog_4_method_4_code, exceptionTable := #[], attributes := #[] }
def k2m1 : Method := { name := "equals", desc := "(Ljava/lang/Object;)Z", sig := { parameters := [(.object "java/lang/Object")], returnType := some .boolean }, accessFlags := 1, code := some k2c1 }
/-- com/example/ewig/ewig/LogRotation -/
def k2 : Class := { plain "com/example/ewig/ewig/LogRotation" (some 0) with
  accessFlags := 32
  interfaces := #[]
  cf := some (fileOf pool2 8 #[] #[{ accessFlags := 0, nameIndex := 5, descriptorIndex := 23, attributes := #[] }, { accessFlags := 1, nameIndex := 31, descriptorIndex := 32, attributes := #[] }] 32 2 #[] #[{ accessFlags := 24, nameIndex := 26, descriptorIndex := 27, attributes := #[] }, { accessFlags := 18, nameIndex := 11, descriptorIndex := 12, attributes := #[] }, { accessFlags := 18, nameIndex := 15, descriptorIndex := 12, attributes := #[] }])
  fields := #[{ name := "DEFAULT", type := (.object "com/example/ewig/ewig/LogRotation"), accessFlags := 24, slot := 0, constantValue := 0 }, { name := "size", type := .int, accessFlags := 18, slot := 0, constantValue := 0 }, { name := "keep", type := .int, accessFlags := 18, slot := 1, constantValue := 0 }]
  methods := #[k2m0, k2m1]
  instanceTypes := #[.int, .int]
  staticTypes := #[(.object "com/example/ewig/ewig/LogRotation")]
  resolved := Array.replicate 55 none
  statics := none }

def pool3 : Array CpInfo := pool [(1, .class_ 2), (0, u "java/io/Serializable"), (0, .class_ 4), (0, u "java/lang/Object")] 2

/-- java/io/Serializable -/
def k3 : Class := { plain "java/io/Serializable" (some 0) with
  accessFlags := 1537
  interfaces := #[]
  cf := some (fileOf pool3 1 #[] #[] 1537 3 #[] #[])
  fields := #[]
  methods := #[]
  instanceTypes := #[]
  staticTypes := #[]
  resolved := Array.replicate 7 none
  statics := none }

def pool4 : Array CpInfo := pool [(1, .methodref 2 3), (0, .class_ 4), (0, .nameAndType 5 6), (0, u "java/lang/Object"), (0, u "<init>"), (0, u "()V"), (1, .class_ 10), (1, u "java/lang/Number"), (2, .class_ 14), (0, u "java/io/Serializable"), (0, u "serialVersionUID"), (0, u "J")] 20

def k4c0 : Code := { maxStack := 1, maxLocals := 1, code := jdk_18_method_1_code, exceptionTable := #[], attributes := #[] }
def k4m0 : Method := { name := "<init>", desc := "()V", sig := { parameters := [], returnType := none }, accessFlags := 1, code := some k4c0 }
/-- java/lang/Number -/
def k4 : Class := { plain "java/lang/Number" (some 0) with
  accessFlags := 1057
  interfaces := #[3]
  cf := some (fileOf pool4 8 #[] #[{ accessFlags := 1, nameIndex := 5, descriptorIndex := 6, attributes := #[] }] 1057 2 #[13] #[{ accessFlags := 26, nameIndex := 15, descriptorIndex := 16, attributes := #[] }])
  fields := #[{ name := "serialVersionUID", type := .long, accessFlags := 26, slot := 0, constantValue := 0 }]
  methods := #[k4m0]
  instanceTypes := #[]
  staticTypes := #[.long]
  resolved := Array.replicate 37 none
  statics := none }

def pool5 : Array CpInfo := pool [(1, .class_ 2), (0, u "java/lang/Comparable"), (0, .class_ 4), (0, u "java/lang/Object")] 7

/-- java/lang/Comparable -/
def k5 : Class := { plain "java/lang/Comparable" (some 0) with
  accessFlags := 1537
  interfaces := #[]
  cf := some (fileOf pool5 1 #[] #[] 1537 3 #[] #[])
  fields := #[]
  methods := #[]
  instanceTypes := #[]
  staticTypes := #[]
  resolved := Array.replicate 12 none
  statics := none }

def pool6 : Array CpInfo := pool [(1, .class_ 2), (0, u "java/lang/constant/Constable"), (0, .class_ 4), (0, u "java/lang/Object")] 6

/-- java/lang/constant/Constable -/
def k6 : Class := { plain "java/lang/constant/Constable" (some 0) with
  accessFlags := 1537
  interfaces := #[]
  cf := some (fileOf pool6 1 #[] #[] 1537 3 #[] #[])
  fields := #[]
  methods := #[]
  instanceTypes := #[]
  staticTypes := #[]
  resolved := Array.replicate 11 none
  statics := none }

def pool7 : Array CpInfo := pool [(1, .class_ 2), (0, u "java/lang/constant/ConstantDesc"), (0, .class_ 4), (0, u "java/lang/Object")] 32

/-- java/lang/constant/ConstantDesc -/
def k7 : Class := { plain "java/lang/constant/ConstantDesc" (some 0) with
  accessFlags := 1537
  interfaces := #[]
  cf := some (fileOf pool7 1 #[] #[] 1537 3 #[] #[])
  fields := #[]
  methods := #[]
  instanceTypes := #[]
  staticTypes := #[]
  resolved := Array.replicate 37 none
  statics := none }

def pool8 : Array CpInfo := pool [(1, .class_ 2), (0, u "java/lang/Integer"), (16, u "digits"), (0, u "[C"), (46, u "<init>"), (17, u "DigitOnes"), (0, u "[B"), (2, u "DigitTens"), (10, .nameAndType 67 101), (0, u "()V"), (85, u "valueOf"), (0, u "(I)Ljava/lang/Integer;"), (0, .class_ 190), (0, u "java/lang/Integer$IntegerCache"), (0, .fieldref 189 192), (0, .nameAndType 193 194), (0, u "high"), (0, u "I"), (0, .fieldref 189 196), (0, .nameAndType 197 198), (0, u "cache"), (0, u "[Ljava/lang/Integer;"), (0, .methodref 1 200), (0, .nameAndType 67 201), (0, u "(I)V"), (0, .methodref 203 100), (0, .class_ 204), (0, u "java/lang/Number"), (0, .fieldref 1 206), (0, .nameAndType 207 194), (0, u "value"), (94, u "TYPE"), (0, u "Ljava/lang/Class;"), (0, .class_ 305), (0, u "java/lang/Comparable"), (0, .class_ 307), (0, u "java/lang/constant/Constable"), (0, .class_ 309), (0, u "java/lang/constant/ConstantDesc"), (0, u "MIN_VALUE"), (1, u "MAX_VALUE"), (3, u "SIZE"), (1, u "BYTES"), (1, u "serialVersionUID"), (0, u "J")] 131

def k8c0 : Code := { maxStack := 3, maxLocals := 1, code := jdk_33_method_22_code, exceptionTable := #[], attributes := #[] }
def k8m0 : Method := { name := "valueOf", desc := "(I)Ljava/lang/Integer;", sig := { parameters := [.int], returnType := some (.object "java/lang/Integer") }, accessFlags := 9, code := some k8c0 }
def k8c1 : Code := { maxStack := 2, maxLocals := 2, code := jdk_33_method_23_code, exceptionTable := #[], attributes := #[] }
def k8m1 : Method := { name := "<init>", desc := "(I)V", sig := { parameters := [.int], returnType := none }, accessFlags := 1, code := some k8c1 }
/-- java/lang/Integer -/
def k8 : Class := { plain "java/lang/Integer" (some 4) with
  accessFlags := 49
  interfaces := #[5, 6, 7]
  cf := some (fileOf pool8 1 #[.nestMembers #[189]] #[{ accessFlags := 9, nameIndex := 187, descriptorIndex := 188, attributes := #[] }, { accessFlags := 1, nameIndex := 67, descriptorIndex := 201, attributes := #[] }] 49 203 #[304, 306, 308] #[{ accessFlags := 25, nameIndex := 310, descriptorIndex := 194, attributes := #[] }, { accessFlags := 25, nameIndex := 312, descriptorIndex := 194, attributes := #[] }, { accessFlags := 25, nameIndex := 302, descriptorIndex := 303, attributes := #[] }, { accessFlags := 24, nameIndex := 19, descriptorIndex := 20, attributes := #[] }, { accessFlags := 24, nameIndex := 89, descriptorIndex := 86, attributes := #[] }, { accessFlags := 24, nameIndex := 85, descriptorIndex := 86, attributes := #[] }, { accessFlags := 18, nameIndex := 207, descriptorIndex := 194, attributes := #[] }, { accessFlags := 25, nameIndex := 316, descriptorIndex := 194, attributes := #[] }, { accessFlags := 25, nameIndex := 318, descriptorIndex := 194, attributes := #[] }, { accessFlags := 26, nameIndex := 320, descriptorIndex := 321, attributes := #[] }])
  fields := #[{ name := "MIN_VALUE", type := .int, accessFlags := 25, slot := 0, constantValue := 0 }, { name := "MAX_VALUE", type := .int, accessFlags := 25, slot := 1, constantValue := 0 }, { name := "TYPE", type := (.object "java/lang/Class"), accessFlags := 25, slot := 2, constantValue := 0 }, { name := "digits", type := (.array .char), accessFlags := 24, slot := 3, constantValue := 0 }, { name := "DigitTens", type := (.array .byte), accessFlags := 24, slot := 4, constantValue := 0 }, { name := "DigitOnes", type := (.array .byte), accessFlags := 24, slot := 5, constantValue := 0 }, { name := "value", type := .int, accessFlags := 18, slot := 0, constantValue := 0 }, { name := "SIZE", type := .int, accessFlags := 25, slot := 6, constantValue := 0 }, { name := "BYTES", type := .int, accessFlags := 25, slot := 7, constantValue := 0 }, { name := "serialVersionUID", type := .long, accessFlags := 26, slot := 8, constantValue := 0 }]
  methods := #[k8m0, k8m1]
  instanceTypes := #[.int]
  staticTypes := #[.int, .int, (.object "java/lang/Class"), (.array .char), (.array .byte), (.array .byte), .int, .int, .long]
  resolved := Array.replicate 453 none
  statics := none }

def pool9 : Array CpInfo := pool [(2, .class_ 4), (1, u "java/lang/Object"), (0, u "<init>"), (0, u "()V"), (0, .class_ 8), (0, u "java/lang/Integer"), (7, .class_ 18), (1, u "java/lang/Integer$IntegerCache"), (0, u "$assertionsDisabled"), (0, u "Z"), (26, u "high"), (0, u "I"), (8, u "archivedCache"), (0, u "[Ljava/lang/Integer;"), (12, u "cache"), (0, u "low")] 27

def k9m0 : Method := { name := "<init>", desc := "()V", sig := { parameters := [], returnType := none }, accessFlags := 2, code := none }
/-- java/lang/Integer$IntegerCache -/
def k9 : Class := { plain "java/lang/Integer$IntegerCache" (some 0) with
  accessFlags := 48
  interfaces := #[]
  cf := some (fileOf pool9 16 #[.nestHost 7] #[{ accessFlags := 2, nameIndex := 5, descriptorIndex := 6, attributes := #[] }] 48 2 #[] #[{ accessFlags := 24, nameIndex := 72, descriptorIndex := 48, attributes := #[] }, { accessFlags := 24, nameIndex := 47, descriptorIndex := 48, attributes := #[] }, { accessFlags := 24, nameIndex := 71, descriptorIndex := 58, attributes := #[] }, { accessFlags := 8, nameIndex := 57, descriptorIndex := 58, attributes := #[] }, { accessFlags := 4120, nameIndex := 19, descriptorIndex := 20, attributes := #[] }])
  fields := #[{ name := "low", type := .int, accessFlags := 24, slot := 0, constantValue := 0 }, { name := "high", type := .int, accessFlags := 24, slot := 1, constantValue := 0 }, { name := "cache", type := (.array (.object "java/lang/Integer")), accessFlags := 24, slot := 2, constantValue := 0 }, { name := "archivedCache", type := (.array (.object "java/lang/Integer")), accessFlags := 8, slot := 3, constantValue := 0 }, { name := "$assertionsDisabled", type := .boolean, accessFlags := 4120, slot := 4, constantValue := 0 }]
  methods := #[k9m0]
  instanceTypes := #[]
  staticTypes := #[.int, .int, (.array (.object "java/lang/Integer")), (.array (.object "java/lang/Integer")), .boolean]
  resolved := Array.replicate 100 none
  statics := some 0 }

def pool10 : Array CpInfo := pool [(1, u "java/lang/Cloneable"), (0, .class_ 1), (0, u "java/lang/Object"), (0, .class_ 3)] 3

/-- java/lang/Cloneable -/
def k10 : Class := { plain "java/lang/Cloneable" (some 0) with
  accessFlags := 1537
  interfaces := #[]
  cf := some (fileOf pool10 2 #[] #[] 1537 4 #[] #[])
  fields := #[]
  methods := #[]
  instanceTypes := #[]
  staticTypes := #[]
  resolved := Array.replicate 8 none
  statics := none }

/-- the primitive byte -/
def k11 : Class := { plain "byte" none with kind := .primitive 'B', accessFlags := 0x411 }
/-- [B -/
def k12 : Class := { plain "[B" (some 0) with kind := .array 11 .byte, interfaces := #[10, 3], accessFlags := 1041 }

/-- the primitive int -/
def k13 : Class := { plain "int" none with kind := .primitive 'I', accessFlags := 0x411 }
/-- [I -/
def k14 : Class := { plain "[I" (some 0) with kind := .array 13 .int, interfaces := #[10, 3], accessFlags := 1041 }

/-- [Ljava/lang/Integer; -/
def k15 : Class := { plain "[Ljava/lang/Integer;" (some 0) with kind := .array 8 (.object "java/lang/Integer"), interfaces := #[10, 3], accessFlags := 1041 }

def heap : Heap := #[{ cls := 9, slots := #[.int 0, .int 127, .ref 1, .null, .int 0], vm := .statics 9 },
  { cls := 15, slots := #[.ref 2, .ref 3, .ref 4, .ref 5, .ref 6, .ref 7, .ref 8, .ref 9, .ref 10, .ref 11, .ref 12, .ref 13, .ref 14, .ref 15, .ref 16, .ref 17, .ref 18, .ref 19, .ref 20, .ref 21, .ref 22, .ref 23, .ref 24, .ref 25, .ref 26, .ref 27, .ref 28, .ref 29, .ref 30, .ref 31, .ref 32, .ref 33, .ref 34, .ref 35, .ref 36, .ref 37, .ref 38, .ref 39, .ref 40, .ref 41, .ref 42, .ref 43, .ref 44, .ref 45, .ref 46, .ref 47, .ref 48, .ref 49, .ref 50, .ref 51, .ref 52, .ref 53, .ref 54, .ref 55, .ref 56, .ref 57, .ref 58, .ref 59, .ref 60, .ref 61, .ref 62, .ref 63, .ref 64, .ref 65, .ref 66, .ref 67, .ref 68, .ref 69, .ref 70, .ref 71, .ref 72, .ref 73, .ref 74, .ref 75, .ref 76, .ref 77, .ref 78, .ref 79, .ref 80, .ref 81, .ref 82, .ref 83, .ref 84, .ref 85, .ref 86, .ref 87, .ref 88, .ref 89, .ref 90, .ref 91, .ref 92, .ref 93, .ref 94, .ref 95, .ref 96, .ref 97, .ref 98, .ref 99, .ref 100, .ref 101, .ref 102, .ref 103, .ref 104, .ref 105, .ref 106, .ref 107, .ref 108, .ref 109, .ref 110, .ref 111, .ref 112, .ref 113, .ref 114, .ref 115, .ref 116, .ref 117, .ref 118, .ref 119, .ref 120, .ref 121, .ref 122, .ref 123, .ref 124, .ref 125, .ref 126, .ref 127, .ref 128, .ref 129, .ref 130, .ref 131, .ref 132, .ref 133, .ref 134, .ref 135, .ref 136, .ref 137, .ref 138, .ref 139, .ref 140, .ref 141, .ref 142, .ref 143, .ref 144, .ref 145, .ref 146, .ref 147, .ref 148, .ref 149, .ref 150, .ref 151, .ref 152, .ref 153, .ref 154, .ref 155, .ref 156, .ref 157, .ref 158, .ref 159, .ref 160, .ref 161, .ref 162, .ref 163, .ref 164, .ref 165, .ref 166, .ref 167, .ref 168, .ref 169, .ref 170, .ref 171, .ref 172, .ref 173, .ref 174, .ref 175, .ref 176, .ref 177, .ref 178, .ref 179, .ref 180, .ref 181, .ref 182, .ref 183, .ref 184, .ref 185, .ref 186, .ref 187, .ref 188, .ref 189, .ref 190, .ref 191, .ref 192, .ref 193, .ref 194, .ref 195, .ref 196, .ref 197, .ref 198, .ref 199, .ref 200, .ref 201, .ref 202, .ref 203, .ref 204, .ref 205, .ref 206, .ref 207, .ref 208, .ref 209, .ref 210, .ref 211, .ref 212, .ref 213, .ref 214, .ref 215, .ref 216, .ref 217, .ref 218, .ref 219, .ref 220, .ref 221, .ref 222, .ref 223, .ref 224, .ref 225, .ref 226, .ref 227, .ref 228, .ref 229, .ref 230, .ref 231, .ref 232, .ref 233, .ref 234, .ref 235, .ref 236, .ref 237, .ref 238, .ref 239, .ref 240, .ref 241, .ref 242, .ref 243, .ref 244, .ref 245, .ref 246, .ref 247, .ref 248, .ref 249, .ref 250, .ref 251, .ref 252, .ref 253, .ref 254, .ref 255, .ref 256, .ref 257], vm := .none },
  { cls := 8, slots := #[.int (-128)], vm := .none },
  { cls := 8, slots := #[.int (-127)], vm := .none },
  { cls := 8, slots := #[.int (-126)], vm := .none },
  { cls := 8, slots := #[.int (-125)], vm := .none },
  { cls := 8, slots := #[.int (-124)], vm := .none },
  { cls := 8, slots := #[.int (-123)], vm := .none },
  { cls := 8, slots := #[.int (-122)], vm := .none },
  { cls := 8, slots := #[.int (-121)], vm := .none },
  { cls := 8, slots := #[.int (-120)], vm := .none },
  { cls := 8, slots := #[.int (-119)], vm := .none },
  { cls := 8, slots := #[.int (-118)], vm := .none },
  { cls := 8, slots := #[.int (-117)], vm := .none },
  { cls := 8, slots := #[.int (-116)], vm := .none },
  { cls := 8, slots := #[.int (-115)], vm := .none },
  { cls := 8, slots := #[.int (-114)], vm := .none },
  { cls := 8, slots := #[.int (-113)], vm := .none },
  { cls := 8, slots := #[.int (-112)], vm := .none },
  { cls := 8, slots := #[.int (-111)], vm := .none },
  { cls := 8, slots := #[.int (-110)], vm := .none },
  { cls := 8, slots := #[.int (-109)], vm := .none },
  { cls := 8, slots := #[.int (-108)], vm := .none },
  { cls := 8, slots := #[.int (-107)], vm := .none },
  { cls := 8, slots := #[.int (-106)], vm := .none },
  { cls := 8, slots := #[.int (-105)], vm := .none },
  { cls := 8, slots := #[.int (-104)], vm := .none },
  { cls := 8, slots := #[.int (-103)], vm := .none },
  { cls := 8, slots := #[.int (-102)], vm := .none },
  { cls := 8, slots := #[.int (-101)], vm := .none },
  { cls := 8, slots := #[.int (-100)], vm := .none },
  { cls := 8, slots := #[.int (-99)], vm := .none },
  { cls := 8, slots := #[.int (-98)], vm := .none },
  { cls := 8, slots := #[.int (-97)], vm := .none },
  { cls := 8, slots := #[.int (-96)], vm := .none },
  { cls := 8, slots := #[.int (-95)], vm := .none },
  { cls := 8, slots := #[.int (-94)], vm := .none },
  { cls := 8, slots := #[.int (-93)], vm := .none },
  { cls := 8, slots := #[.int (-92)], vm := .none },
  { cls := 8, slots := #[.int (-91)], vm := .none },
  { cls := 8, slots := #[.int (-90)], vm := .none },
  { cls := 8, slots := #[.int (-89)], vm := .none },
  { cls := 8, slots := #[.int (-88)], vm := .none },
  { cls := 8, slots := #[.int (-87)], vm := .none },
  { cls := 8, slots := #[.int (-86)], vm := .none },
  { cls := 8, slots := #[.int (-85)], vm := .none },
  { cls := 8, slots := #[.int (-84)], vm := .none },
  { cls := 8, slots := #[.int (-83)], vm := .none },
  { cls := 8, slots := #[.int (-82)], vm := .none },
  { cls := 8, slots := #[.int (-81)], vm := .none },
  { cls := 8, slots := #[.int (-80)], vm := .none },
  { cls := 8, slots := #[.int (-79)], vm := .none },
  { cls := 8, slots := #[.int (-78)], vm := .none },
  { cls := 8, slots := #[.int (-77)], vm := .none },
  { cls := 8, slots := #[.int (-76)], vm := .none },
  { cls := 8, slots := #[.int (-75)], vm := .none },
  { cls := 8, slots := #[.int (-74)], vm := .none },
  { cls := 8, slots := #[.int (-73)], vm := .none },
  { cls := 8, slots := #[.int (-72)], vm := .none },
  { cls := 8, slots := #[.int (-71)], vm := .none },
  { cls := 8, slots := #[.int (-70)], vm := .none },
  { cls := 8, slots := #[.int (-69)], vm := .none },
  { cls := 8, slots := #[.int (-68)], vm := .none },
  { cls := 8, slots := #[.int (-67)], vm := .none },
  { cls := 8, slots := #[.int (-66)], vm := .none },
  { cls := 8, slots := #[.int (-65)], vm := .none },
  { cls := 8, slots := #[.int (-64)], vm := .none },
  { cls := 8, slots := #[.int (-63)], vm := .none },
  { cls := 8, slots := #[.int (-62)], vm := .none },
  { cls := 8, slots := #[.int (-61)], vm := .none },
  { cls := 8, slots := #[.int (-60)], vm := .none },
  { cls := 8, slots := #[.int (-59)], vm := .none },
  { cls := 8, slots := #[.int (-58)], vm := .none },
  { cls := 8, slots := #[.int (-57)], vm := .none },
  { cls := 8, slots := #[.int (-56)], vm := .none },
  { cls := 8, slots := #[.int (-55)], vm := .none },
  { cls := 8, slots := #[.int (-54)], vm := .none },
  { cls := 8, slots := #[.int (-53)], vm := .none },
  { cls := 8, slots := #[.int (-52)], vm := .none },
  { cls := 8, slots := #[.int (-51)], vm := .none },
  { cls := 8, slots := #[.int (-50)], vm := .none },
  { cls := 8, slots := #[.int (-49)], vm := .none },
  { cls := 8, slots := #[.int (-48)], vm := .none },
  { cls := 8, slots := #[.int (-47)], vm := .none },
  { cls := 8, slots := #[.int (-46)], vm := .none },
  { cls := 8, slots := #[.int (-45)], vm := .none },
  { cls := 8, slots := #[.int (-44)], vm := .none },
  { cls := 8, slots := #[.int (-43)], vm := .none },
  { cls := 8, slots := #[.int (-42)], vm := .none },
  { cls := 8, slots := #[.int (-41)], vm := .none },
  { cls := 8, slots := #[.int (-40)], vm := .none },
  { cls := 8, slots := #[.int (-39)], vm := .none },
  { cls := 8, slots := #[.int (-38)], vm := .none },
  { cls := 8, slots := #[.int (-37)], vm := .none },
  { cls := 8, slots := #[.int (-36)], vm := .none },
  { cls := 8, slots := #[.int (-35)], vm := .none },
  { cls := 8, slots := #[.int (-34)], vm := .none },
  { cls := 8, slots := #[.int (-33)], vm := .none },
  { cls := 8, slots := #[.int (-32)], vm := .none },
  { cls := 8, slots := #[.int (-31)], vm := .none },
  { cls := 8, slots := #[.int (-30)], vm := .none },
  { cls := 8, slots := #[.int (-29)], vm := .none },
  { cls := 8, slots := #[.int (-28)], vm := .none },
  { cls := 8, slots := #[.int (-27)], vm := .none },
  { cls := 8, slots := #[.int (-26)], vm := .none },
  { cls := 8, slots := #[.int (-25)], vm := .none },
  { cls := 8, slots := #[.int (-24)], vm := .none },
  { cls := 8, slots := #[.int (-23)], vm := .none },
  { cls := 8, slots := #[.int (-22)], vm := .none },
  { cls := 8, slots := #[.int (-21)], vm := .none },
  { cls := 8, slots := #[.int (-20)], vm := .none },
  { cls := 8, slots := #[.int (-19)], vm := .none },
  { cls := 8, slots := #[.int (-18)], vm := .none },
  { cls := 8, slots := #[.int (-17)], vm := .none },
  { cls := 8, slots := #[.int (-16)], vm := .none },
  { cls := 8, slots := #[.int (-15)], vm := .none },
  { cls := 8, slots := #[.int (-14)], vm := .none },
  { cls := 8, slots := #[.int (-13)], vm := .none },
  { cls := 8, slots := #[.int (-12)], vm := .none },
  { cls := 8, slots := #[.int (-11)], vm := .none },
  { cls := 8, slots := #[.int (-10)], vm := .none },
  { cls := 8, slots := #[.int (-9)], vm := .none },
  { cls := 8, slots := #[.int (-8)], vm := .none },
  { cls := 8, slots := #[.int (-7)], vm := .none },
  { cls := 8, slots := #[.int (-6)], vm := .none },
  { cls := 8, slots := #[.int (-5)], vm := .none },
  { cls := 8, slots := #[.int (-4)], vm := .none },
  { cls := 8, slots := #[.int (-3)], vm := .none },
  { cls := 8, slots := #[.int (-2)], vm := .none },
  { cls := 8, slots := #[.int (-1)], vm := .none },
  { cls := 8, slots := #[.int (0)], vm := .none },
  { cls := 8, slots := #[.int (1)], vm := .none },
  { cls := 8, slots := #[.int (2)], vm := .none },
  { cls := 8, slots := #[.int (3)], vm := .none },
  { cls := 8, slots := #[.int (4)], vm := .none },
  { cls := 8, slots := #[.int (5)], vm := .none },
  { cls := 8, slots := #[.int (6)], vm := .none },
  { cls := 8, slots := #[.int (7)], vm := .none },
  { cls := 8, slots := #[.int (8)], vm := .none },
  { cls := 8, slots := #[.int (9)], vm := .none },
  { cls := 8, slots := #[.int (10)], vm := .none },
  { cls := 8, slots := #[.int (11)], vm := .none },
  { cls := 8, slots := #[.int (12)], vm := .none },
  { cls := 8, slots := #[.int (13)], vm := .none },
  { cls := 8, slots := #[.int (14)], vm := .none },
  { cls := 8, slots := #[.int (15)], vm := .none },
  { cls := 8, slots := #[.int (16)], vm := .none },
  { cls := 8, slots := #[.int (17)], vm := .none },
  { cls := 8, slots := #[.int (18)], vm := .none },
  { cls := 8, slots := #[.int (19)], vm := .none },
  { cls := 8, slots := #[.int (20)], vm := .none },
  { cls := 8, slots := #[.int (21)], vm := .none },
  { cls := 8, slots := #[.int (22)], vm := .none },
  { cls := 8, slots := #[.int (23)], vm := .none },
  { cls := 8, slots := #[.int (24)], vm := .none },
  { cls := 8, slots := #[.int (25)], vm := .none },
  { cls := 8, slots := #[.int (26)], vm := .none },
  { cls := 8, slots := #[.int (27)], vm := .none },
  { cls := 8, slots := #[.int (28)], vm := .none },
  { cls := 8, slots := #[.int (29)], vm := .none },
  { cls := 8, slots := #[.int (30)], vm := .none },
  { cls := 8, slots := #[.int (31)], vm := .none },
  { cls := 8, slots := #[.int (32)], vm := .none },
  { cls := 8, slots := #[.int (33)], vm := .none },
  { cls := 8, slots := #[.int (34)], vm := .none },
  { cls := 8, slots := #[.int (35)], vm := .none },
  { cls := 8, slots := #[.int (36)], vm := .none },
  { cls := 8, slots := #[.int (37)], vm := .none },
  { cls := 8, slots := #[.int (38)], vm := .none },
  { cls := 8, slots := #[.int (39)], vm := .none },
  { cls := 8, slots := #[.int (40)], vm := .none },
  { cls := 8, slots := #[.int (41)], vm := .none },
  { cls := 8, slots := #[.int (42)], vm := .none },
  { cls := 8, slots := #[.int (43)], vm := .none },
  { cls := 8, slots := #[.int (44)], vm := .none },
  { cls := 8, slots := #[.int (45)], vm := .none },
  { cls := 8, slots := #[.int (46)], vm := .none },
  { cls := 8, slots := #[.int (47)], vm := .none },
  { cls := 8, slots := #[.int (48)], vm := .none },
  { cls := 8, slots := #[.int (49)], vm := .none },
  { cls := 8, slots := #[.int (50)], vm := .none },
  { cls := 8, slots := #[.int (51)], vm := .none },
  { cls := 8, slots := #[.int (52)], vm := .none },
  { cls := 8, slots := #[.int (53)], vm := .none },
  { cls := 8, slots := #[.int (54)], vm := .none },
  { cls := 8, slots := #[.int (55)], vm := .none },
  { cls := 8, slots := #[.int (56)], vm := .none },
  { cls := 8, slots := #[.int (57)], vm := .none },
  { cls := 8, slots := #[.int (58)], vm := .none },
  { cls := 8, slots := #[.int (59)], vm := .none },
  { cls := 8, slots := #[.int (60)], vm := .none },
  { cls := 8, slots := #[.int (61)], vm := .none },
  { cls := 8, slots := #[.int (62)], vm := .none },
  { cls := 8, slots := #[.int (63)], vm := .none },
  { cls := 8, slots := #[.int (64)], vm := .none },
  { cls := 8, slots := #[.int (65)], vm := .none },
  { cls := 8, slots := #[.int (66)], vm := .none },
  { cls := 8, slots := #[.int (67)], vm := .none },
  { cls := 8, slots := #[.int (68)], vm := .none },
  { cls := 8, slots := #[.int (69)], vm := .none },
  { cls := 8, slots := #[.int (70)], vm := .none },
  { cls := 8, slots := #[.int (71)], vm := .none },
  { cls := 8, slots := #[.int (72)], vm := .none },
  { cls := 8, slots := #[.int (73)], vm := .none },
  { cls := 8, slots := #[.int (74)], vm := .none },
  { cls := 8, slots := #[.int (75)], vm := .none },
  { cls := 8, slots := #[.int (76)], vm := .none },
  { cls := 8, slots := #[.int (77)], vm := .none },
  { cls := 8, slots := #[.int (78)], vm := .none },
  { cls := 8, slots := #[.int (79)], vm := .none },
  { cls := 8, slots := #[.int (80)], vm := .none },
  { cls := 8, slots := #[.int (81)], vm := .none },
  { cls := 8, slots := #[.int (82)], vm := .none },
  { cls := 8, slots := #[.int (83)], vm := .none },
  { cls := 8, slots := #[.int (84)], vm := .none },
  { cls := 8, slots := #[.int (85)], vm := .none },
  { cls := 8, slots := #[.int (86)], vm := .none },
  { cls := 8, slots := #[.int (87)], vm := .none },
  { cls := 8, slots := #[.int (88)], vm := .none },
  { cls := 8, slots := #[.int (89)], vm := .none },
  { cls := 8, slots := #[.int (90)], vm := .none },
  { cls := 8, slots := #[.int (91)], vm := .none },
  { cls := 8, slots := #[.int (92)], vm := .none },
  { cls := 8, slots := #[.int (93)], vm := .none },
  { cls := 8, slots := #[.int (94)], vm := .none },
  { cls := 8, slots := #[.int (95)], vm := .none },
  { cls := 8, slots := #[.int (96)], vm := .none },
  { cls := 8, slots := #[.int (97)], vm := .none },
  { cls := 8, slots := #[.int (98)], vm := .none },
  { cls := 8, slots := #[.int (99)], vm := .none },
  { cls := 8, slots := #[.int (100)], vm := .none },
  { cls := 8, slots := #[.int (101)], vm := .none },
  { cls := 8, slots := #[.int (102)], vm := .none },
  { cls := 8, slots := #[.int (103)], vm := .none },
  { cls := 8, slots := #[.int (104)], vm := .none },
  { cls := 8, slots := #[.int (105)], vm := .none },
  { cls := 8, slots := #[.int (106)], vm := .none },
  { cls := 8, slots := #[.int (107)], vm := .none },
  { cls := 8, slots := #[.int (108)], vm := .none },
  { cls := 8, slots := #[.int (109)], vm := .none },
  { cls := 8, slots := #[.int (110)], vm := .none },
  { cls := 8, slots := #[.int (111)], vm := .none },
  { cls := 8, slots := #[.int (112)], vm := .none },
  { cls := 8, slots := #[.int (113)], vm := .none },
  { cls := 8, slots := #[.int (114)], vm := .none },
  { cls := 8, slots := #[.int (115)], vm := .none },
  { cls := 8, slots := #[.int (116)], vm := .none },
  { cls := 8, slots := #[.int (117)], vm := .none },
  { cls := 8, slots := #[.int (118)], vm := .none },
  { cls := 8, slots := #[.int (119)], vm := .none },
  { cls := 8, slots := #[.int (120)], vm := .none },
  { cls := 8, slots := #[.int (121)], vm := .none },
  { cls := 8, slots := #[.int (122)], vm := .none },
  { cls := 8, slots := #[.int (123)], vm := .none },
  { cls := 8, slots := #[.int (124)], vm := .none },
  { cls := 8, slots := #[.int (125)], vm := .none },
  { cls := 8, slots := #[.int (126)], vm := .none },
  { cls := 8, slots := #[.int (127)], vm := .none }]
def classes : Array Class := #[k0, k1, k2, k3, k4, k5, k6, k7, k8, k9, k10, k11, k12, k13, k14, k15]
def interned : List (Array UInt16 × Addr) := []
def slotsUsed : Nat := 517
def theMethod : MethodId := ⟨1, 1⟩
def args0 : Array Value := #[.int 5, .int 6, .int 7, .int 8, .int 9]
def aboutOver (below : List Frame) : State where
  vm := { classes := classes, interned := interned.toArray }
  heap := heap
  slotsUsed := slotsUsed
  threads := #[{ frames := .invoking theMethod args0 :: below }]
def below0 : List Frame := [.native { method := ⟨0, 0⟩, args := #[] }]
def about1 : State := aboutOver below0
def p0 : Program := .bare "" "" ""
def e0 : Env := launch0.env 0 0 0
theorem w_frames : about1.frames = Frame.invoking theMethod args0 :: below0 := rfl
set_option maxRecDepth 65536 in
theorem w_args : argsFit about1.vm theMethod args0 = true := by decide +kernel
set_option maxRecDepth 65536 in
theorem w_heap : heapFits about1 = true := by decide +kernel
set_option maxRecDepth 65536 in
theorem w_runnable : about1.curStatus? = some .runnable := by decide +kernel
set_option maxRecDepth 65536 in
theorem w_alone : about1.alone = true := by decide +kernel
set_option maxRecDepth 65536 in
theorem w_named : about1.methodNamed? x = some theMethod := by decide +kernel
set_option maxRecDepth 65536 in
theorem w_hears : about1.hears theMethod below0 = true := by decide +kernel
set_option maxRecDepth 65536 in
theorem w_ripe : about1.ripe theMethod args0 below0 = true := by decide +kernel
theorem w_running : about1.status = .running := rfl
set_option maxRecDepth 65536 in
theorem w_room : about1.hasRoom e0.platform room_1 = true :=
  launch0.hasRoom_least _ room_1 (by decide +kernel) (by decide +kernel) (by decide +kernel) (by decide +kernel) (by decide +kernel) (by decide +kernel)
theorem allAtoms_all (ts : List Jvm.Cond) (a : Array Jvm.Value) (st : Jvm.State) : (allAtoms ts).before a st = ts.all (fun c => c.before a st) := by
  induction ts with
  | nil => rfl
  | cons c t ih =>
    show (Jvm.Cond.and c (allAtoms t)).before a st = _
    rw [Jvm.Cond.before_and, ih, List.all_cons]
def words1 : List Jvm.Cond := Jvm.Cond.code x code maxLocals ret :: tables_1
/-- a 'code' word, met by the world's own term for the bytes: nothing is compared byte by byte -/
theorem code_word {y : MethodName} {bytes : ByteArray} {mx : Nat} {rt : Option FieldType} {a : Array Value} {s : State} {m : MethodId} {meth : Method} {c : Code} (h1 : s.methodNamed? y = some m) (h2 : s.vm.method? m = some meth) (h3 : meth.code = some c) (h4 : c.code = bytes)
    (h5 : (c.maxLocals == mx && c.exceptionTable.isEmpty && decide (c.maxStack ≤ mostOperands) && decide (meth.sig.returnType = rt) && !meth.locks && decide (parseMethodDescriptor y.desc = some meth.sig)) = true) : (Jvm.Cond.code y bytes mx rt).before a s = true := by
  simp only [Bool.and_eq_true, beq_iff_eq, Bool.not_eq_true', decide_eq_true_eq] at h5
  obtain ⟨⟨⟨⟨⟨g1, g2⟩, g3⟩, g4⟩, g5⟩, g6⟩ := h5
  simp [Cond.before, Cond.holds, Cond.value, h1, h2, h3, h4, g1, g2, g3, g4, g5, g6]
def isCode : Jvm.Cond → Bool
  | .code _ _ _ _ => true
  | _ => false
theorem all_split {L : List Jvm.Cond} {P : Jvm.Cond → Bool} (h1 : L.all (fun c => isCode c || P c) = true) (h2 : ∀ c ∈ L.filter isCode, P c = true) : L.all P = true := by
  refine List.all_eq_true.mpr fun c hc => ?_
  have h := List.all_eq_true.mp h1 c hc
  rcases Bool.eq_false_or_eq_true (isCode c) with hi | hi
  · exact h2 c (List.mem_filter.mpr ⟨hc, hi⟩)
  · simpa [hi] using h
set_option maxRecDepth 65536 in
theorem w_c0 : (Jvm.Cond.code x code maxLocals ret).before args0 about1 = true := code_word (m := ⟨1, 1⟩) (meth := k1m1) (c := k1c1) (by decide +kernel) rfl rfl rfl (by decide +kernel)
set_option maxRecDepth 65536 in
theorem w_c1 : (Jvm.Cond.code ({ cls := "com/example/ewig/ewig/LogRotation", name := "<init>", desc := "(II)V" } : Jvm.MethodName) prog_4_method_1_code (3 : Nat) (Option.none : Option Jvm.ClassFile.FieldType)).before args0 about1 = true := code_word (m := ⟨2, 0⟩) (meth := k2m0) (c := k2c0) (by decide +kernel) rfl rfl rfl (by decide +kernel)
set_option maxRecDepth 65536 in
theorem w_c2 : (Jvm.Cond.code ({ cls := "java/lang/Object", name := "<init>", desc := "()V" } : Jvm.MethodName) object_method_1_code (1 : Nat) (Option.none : Option Jvm.ClassFile.FieldType)).before args0 about1 = true := code_word (m := ⟨0, 0⟩) (meth := k0m0) (c := k0c0) (by decide +kernel) rfl rfl rfl (by decide +kernel)
set_option maxRecDepth 65536 in
theorem w_c3 : (Jvm.Cond.code ({ cls := "com/example/ewig/ewig/LogRotation", name := "equals", desc := "(Ljava/lang/Object;)Z" } : Jvm.MethodName) prog_4_method_4_code (3 : Nat) (Option.some Jvm.ClassFile.FieldType.boolean)).before args0 about1 = true := code_word (m := ⟨2, 1⟩) (meth := k2m1) (c := k2c1) (by decide +kernel) rfl rfl rfl (by decide +kernel)
set_option maxRecDepth 65536 in
theorem w_c4 : (Jvm.Cond.code ({ cls := "java/lang/Integer", name := "valueOf", desc := "(I)Ljava/lang/Integer;" } : Jvm.MethodName) jdk_33_method_22_code (1 : Nat) (Option.some (Jvm.ClassFile.FieldType.object "java/lang/Integer"))).before args0 about1 = true := code_word (m := ⟨8, 0⟩) (meth := k8m0) (c := k8c0) (by decide +kernel) rfl rfl rfl (by decide +kernel)
set_option maxRecDepth 65536 in
theorem w_c5 : (Jvm.Cond.code ({ cls := "java/lang/Integer", name := "<init>", desc := "(I)V" } : Jvm.MethodName) jdk_33_method_23_code (2 : Nat) (Option.none : Option Jvm.ClassFile.FieldType)).before args0 about1 = true := code_word (m := ⟨8, 1⟩) (meth := k8m1) (c := k8c1) (by decide +kernel) rfl rfl rfl (by decide +kernel)
set_option maxRecDepth 65536 in
theorem w_c6 : (Jvm.Cond.code ({ cls := "java/lang/Number", name := "<init>", desc := "()V" } : Jvm.MethodName) jdk_18_method_1_code (1 : Nat) (Option.none : Option Jvm.ClassFile.FieldType)).before args0 about1 = true := code_word (m := ⟨4, 0⟩) (meth := k4m0) (c := k4c0) (by decide +kernel) rfl rfl rfl (by decide +kernel)
def codes1 : List Jvm.Cond := [Jvm.Cond.code x code maxLocals ret, Jvm.Cond.code ({ cls := "com/example/ewig/ewig/LogRotation", name := "<init>", desc := "(II)V" } : Jvm.MethodName) prog_4_method_1_code (3 : Nat) (Option.none : Option Jvm.ClassFile.FieldType), Jvm.Cond.code ({ cls := "java/lang/Object", name := "<init>", desc := "()V" } : Jvm.MethodName) object_method_1_code (1 : Nat) (Option.none : Option Jvm.ClassFile.FieldType), Jvm.Cond.code ({ cls := "com/example/ewig/ewig/LogRotation", name := "equals", desc := "(Ljava/lang/Object;)Z" } : Jvm.MethodName) prog_4_method_4_code (3 : Nat) (Option.some Jvm.ClassFile.FieldType.boolean), Jvm.Cond.code ({ cls := "java/lang/Integer", name := "valueOf", desc := "(I)Ljava/lang/Integer;" } : Jvm.MethodName) jdk_33_method_22_code (1 : Nat) (Option.some (Jvm.ClassFile.FieldType.object "java/lang/Integer")), Jvm.Cond.code ({ cls := "java/lang/Integer", name := "<init>", desc := "(I)V" } : Jvm.MethodName) jdk_33_method_23_code (2 : Nat) (Option.none : Option Jvm.ClassFile.FieldType), Jvm.Cond.code ({ cls := "java/lang/Number", name := "<init>", desc := "()V" } : Jvm.MethodName) jdk_18_method_1_code (1 : Nat) (Option.none : Option Jvm.ClassFile.FieldType)]
set_option maxRecDepth 65536 in
theorem codes_eq : words1.filter isCode = codes1 := rfl
theorem w_codes : ∀ c ∈ words1.filter isCode, c.before args0 about1 = true := by
  rw [codes_eq]
  intro c hc
  simp only [codes1, List.mem_cons, List.not_mem_nil, or_false] at hc
  rcases hc with rfl | rfl | rfl | rfl | rfl | rfl | rfl
  · exact w_c0
  · exact w_c1
  · exact w_c2
  · exact w_c3
  · exact w_c4
  · exact w_c5
  · exact w_c6
set_option maxRecDepth 65536 in
theorem w_t1 : (words1.take 24).all (fun c => isCode c || c.before args0 about1) = true := by decide +kernel
set_option maxRecDepth 65536 in
theorem w_t2 : (words1.drop 24).all (fun c => isCode c || c.before args0 about1) = true := by decide +kernel
theorem w_tables : (allAtoms (Jvm.Cond.code x code maxLocals ret :: tables_1)).before args0 about1 = true := by
  rw [allAtoms_all]
  show words1.all (fun c => c.before args0 about1) = true
  refine all_split ?_ w_codes
  rw [← List.take_append_drop 24 words1, List.all_append, w_t1, w_t2]
  rfl
set_option maxRecDepth 65536 in
theorem w_rest : rest_1_c.before args0 about1 = true := by decide +kernel
set_option maxRecDepth 65536 in
theorem w_case : (Jvm.Cond.and given_1 narrow_1).before args0 about1 = true := by decide +kernel
theorem w_applies : (headSpec (Jvm.Cond.code x code maxLocals ret :: tables_1) room_1).applies x e0.platform about1 = true :=
  (Spec.applies_iff w_frames).mpr ⟨w_running, w_runnable, w_alone, w_named, w_hears, w_ripe, w_room, w_tables⟩
theorem atStart : AtStart classFile x code maxLocals ret World_1 tables_1 room_1 Calls_1 rest_1 Pre_1 launch0 p0 e0 about1 theMethod args0 below0 :=
  ⟨lists_1, trivial, launch0.admits_env _ _ _, launch0.least_env, fairChoices_fair.cas, fairChoices_fair.clock, w_frames, w_args, w_heap, w_applies, trivial, w_rest, w_case⟩
end start1
theorem witness_1 : WitnessClaimed_1 := ⟨start1.p0, start1.e0, start1.about1, start1.theMethod, start1.args0, start1.below0, start1.atStart⟩
end Jvm.Pilot.@@N@@
