import JvmDerived
import JvmDerived.Pilot.@@N@@Statement
import JvmDerived.Pilot.@@N@@Code
set_option linter.unusedVariables false
set_option linter.unusedSimpArgs false

namespace Jvm.Pilot.@@N@@
open Jvm Jvm.ClassFile Sem Op Lib Jvm.Free Jvm.Stand Jvm.LawKit Jvm.RoadKit Bundle Jvm.Pilot.@@N@@.Jvm.D


section OwnKit
variable {p : Program} {l : Launch} {e : Env} {R : Room} {s : State} {m : MethodId} {args : Array Value} {below : List Frame} {meth : Method} {c : Code} {T : State} {locs : List Loc} {cells slots : Nat} {h : Heap} {Q : Option Value → Heap → List Loc → Prop} {C S : Nat}
/-- from the state t the run comes to its end, and what it leaves answers Q -/
def own_Gl (p : Program) (e : Env) (below : List Frame) (s : State) (Q : Option Value → Heap → List Loc → Prop) (C S : Nat) (t : State) : Prop :=
  ∃ s₂ o, Steps p.tables e below t s₂ ∧ s₂.status = .running ∧ Ended s₂ below o ∧ ∃ v L, o = .returned v ∧ Q v s₂.heap L ∧ FrameEnd s o s₂ L C S
theorem own_st {t t' : State} (k : ∀ target, Steps p.tables e below t' target → Steps p.tables e below t target) (d : own_Gl p e below s Q C S t') : own_Gl p e below s Q C S t := by
  obtain ⟨s₂, o, h1, h2⟩ := d
  exact ⟨s₂, o, k _ h1, h2⟩
theorem own_tr {t t' : State} (k : Steps p.tables e below t t') (d : own_Gl p e below s Q C S t') : own_Gl p e below s Q C S t := own_st (fun _ h => k.trans h) d
theorem own_cast {g g' : JFrame} (q : g = g') (d : own_Gl p e below s Q C S (T.setTop g')) : own_Gl p e below s Q C S (T.setTop g) := q ▸ d
theorem own_ret (X : Stand p l e R s m args below meth c T locs cells slots) (hlk : meth.locks = false) {v : Option Value} {t : State} (hv : meth.sig.returnType = none → v = none) (eT : T.heap = h) (hq : Q v h locs) (hc : cells ≤ C) (hs : slots ≤ S)
    (k : ∀ fs, (∀ (f : JFrame) (acts : List Action), f.method = m → f.locked = none → f.entered = [] → (doReturn e (T.setTop f) acts v).1 = T.setFrames fs) → Steps p.tables e below t (T.setFrames fs)) : own_Gl p e below s Q C S t := by
  obtain ⟨fs, hr, hrun, hended, hW, hsame⟩ := X.leave hv hlk
  exact ⟨_, _, k fs hr, hrun, hended, v, locs, rfl, by show Q v T.heap locs; rw [eT]; exact hq, ⟨_, rfl⟩, hW, hsame.mono hc hs⟩
theorem own_retI (X : Stand p l e R s m args below meth c T locs cells slots) (hx : p.tables.exec = Jvm.exec) (hlk : meth.locks = false) {pc : Nat} {Ls : Array Slot} {z : Int32} {rest : List Value} (hret : meth.sig.returnType = some .int) (hd : decode c.code pc = .ok (.ireturn, 1)) (eT : T.heap = h) (hq : Q (some (.int z)) h locs) (hc : cells ≤ C) (hs : slots ≤ S) :
    own_Gl p e below s Q C S (T.setTop (mkF m pc Ls (.int z :: rest))) :=
  own_ret X hlk (fun q => by rw [hret] at q; cases q) eT hq hc hs (fun _ hr => retOut X hx hret rfl (Or.inl ⟨rfl, Or.inl rfl, _, rfl⟩) hd hr)
theorem own_retN (X : Stand p l e R s m args below meth c T locs cells slots) (hx : p.tables.exec = Jvm.exec) (hlk : meth.locks = false) {pc : Nat} {Ls : Array Slot} {z : Int32} {t : FieldType} {rest : List Value} (hret : meth.sig.returnType = some t) (ht : t = .boolean ∨ t = .byte ∨ t = .char ∨ t = .short) (hd : decode c.code pc = .ok (.ireturn, 1)) (eT : T.heap = h) (hq : Q (some (.int (nar t z))) h locs) (hc : cells ≤ C) (hs : slots ≤ S) :
    own_Gl p e below s Q C S (T.setTop (mkF m pc Ls (.int z :: rest))) :=
  own_ret X hlk (fun q => by rw [hret] at q; cases q) eT hq hc hs (fun _ hr => retN X hx hret ht hd hr)
theorem own_retJ (X : Stand p l e R s m args below meth c T locs cells slots) (hx : p.tables.exec = Jvm.exec) (hlk : meth.locks = false) {pc : Nat} {Ls : Array Slot} {z : Int64} {rest : List Value} (hret : meth.sig.returnType = some .long) (hd : decode c.code pc = .ok (.lreturn, 1)) (eT : T.heap = h) (hq : Q (some (.long z)) h locs) (hc : cells ≤ C) (hs : slots ≤ S) :
    own_Gl p e below s Q C S (T.setTop (mkF m pc Ls (.long z :: rest))) :=
  own_ret X hlk (fun q => by rw [hret] at q; cases q) eT hq hc hs (fun _ hr => retOut X hx hret rfl (Or.inr (Or.inl ⟨rfl, rfl, _, rfl⟩)) hd hr)
theorem own_retA (X : Stand p l e R s m args below meth c T locs cells slots) (hx : p.tables.exec = Jvm.exec) (hlk : meth.locks = false) {pc : Nat} {Ls : Array Slot} {w : Value} {t : FieldType} {rest : List Value} (hret : meth.sig.returnType = some t) (ht : t.isReference = true) (hw : w.isRef = true) (hn : narrow t w = w) (hd : decode c.code pc = .ok (.areturn, 1)) (eT : T.heap = h) (hq : Q (some w) h locs) (hc : cells ≤ C) (hs : slots ≤ S) :
    own_Gl p e below s Q C S (T.setTop (mkF m pc Ls (w :: rest))) :=
  own_ret X hlk (fun q => by rw [hret] at q; cases q) eT hq hc hs (fun _ hr => retOut X hx hret hn (Or.inr (Or.inr (Or.inr (Or.inr ⟨rfl, ht, hw⟩)))) hd hr)
theorem own_retV (X : Stand p l e R s m args below meth c T locs cells slots) (hx : p.tables.exec = Jvm.exec) (hlk : meth.locks = false) {pc : Nat} {Ls : Array Slot} (hret : meth.sig.returnType = none) (hd : decode c.code pc = .ok (.return_, 1)) (eT : T.heap = h) (hq : Q none h locs) (hc : cells ≤ C) (hs : slots ≤ S) :
    own_Gl p e below s Q C S (T.setTop (mkF m pc Ls [])) :=
  own_ret X hlk (fun _ => rfl) eT hq hc hs (fun _ hr => X.returnOut hx hret hd hr)
end OwnKit


theorem own_h0 (a b : Int32) (h : (31 : Int32) * a = (31 : Int32) * b) : a = b := by
  have e : ((-1108378657 : Int32) * (31 : Int32)) = 1 := by decide
  have q := congrArg (fun z => (-1108378657 : Int32) * z) h
  simp only [← Int32.mul_assoc, e, Int32.one_mul] at q
  exact q
theorem own_h1 (a b k : Int32) : (31 : Int32) * a + k = (31 : Int32) * b + k ↔ a = b := by
  constructor
  · intro h
    have q := congrArg (fun z => z - k) h
    simp only [Int32.add_sub_cancel] at q
    exact own_h0 a b q
  · intro h; rw [h]
theorem own_h2 (a k j : Int32) : (31 : Int32) * a + k = (31 : Int32) * a + j ↔ k = j := by
  constructor
  · intro h
    have q := congrArg (fun z => z - (31 : Int32) * a) h
    simp only [Int32.add_comm ((31 : Int32) * a), Int32.add_sub_cancel] at q
    exact q
  · intro h; rw [h]

theorem own_d_prog_4_method_1_code_0 : decode prog_4_method_1_code 0 = .ok (.aload_n 0, 1) := by decide +kernel
theorem own_d_prog_4_method_1_code_1 : decode prog_4_method_1_code 1 = .ok (.invokespecial 1, 3) := by decide +kernel
theorem own_d_prog_4_method_1_code_4 : decode prog_4_method_1_code 4 = .ok (.aload_n 0, 1) := by decide +kernel
theorem own_d_prog_4_method_1_code_5 : decode prog_4_method_1_code 5 = .ok (.iload_n 1, 1) := by decide +kernel
theorem own_d_prog_4_method_1_code_6 : decode prog_4_method_1_code 6 = .ok (.putfield 7, 3) := by decide +kernel
theorem own_d_prog_4_method_1_code_9 : decode prog_4_method_1_code 9 = .ok (.aload_n 0, 1) := by decide +kernel
theorem own_d_prog_4_method_1_code_10 : decode prog_4_method_1_code 10 = .ok (.iload_n 2, 1) := by decide +kernel
theorem own_d_prog_4_method_1_code_11 : decode prog_4_method_1_code 11 = .ok (.putfield 13, 3) := by decide +kernel
theorem own_d_prog_4_method_1_code_14 : decode prog_4_method_1_code 14 = .ok (.return_, 1) := by decide +kernel
theorem own_ef_own_init (m : MethodId) (x0 : Addr) (x1 : Int32) (x2 : Int32) : entryFrame m #[(.ref x0), (.int x1), (.int x2)] 3 = mkF m 0 #[.val (.ref x0), .val (.int x1), .val (.int x2)] [] := by first | (simp [entryFrame, mkF, argsToLocals, Value.category]; done) | rfl
def own_Q_own_init (Z : State) (a : Addr) (p1 : Int32) (p2 : Int32) (h0 : Heap) (n0 : Nat) (v : Option Value) (h : Heap) (L : List Loc) : Prop := (v = none) ∧ (Fr n0 L) ∧ (Keep h0 h [a]) ∧ (Fld Z h a "com/example/ewig/ewig/LogRotation" "size" "I" (.int p1)) ∧ (Fld Z h a "com/example/ewig/ewig/LogRotation" "keep" "I" (.int p2))
theorem own_pn555926024 : plainName "com/example/ewig/ewig/LogRotation" = true := by first | (simp [plainName, overriddenIn]; done) | decide +kernel
set_option maxRecDepth 65536 in
set_option maxHeartbeats 40000000 in
theorem own_init (l : Launch) (Z : State) (a0 : Array Value) (hw : ∀ d ∈ tables_1, d.before a0 Z = true) (ws : List Jvm.Cond) (a : Addr) (p1 : Int32) (p2 : Int32) (h0 : Heap) (n0 : Nat) (Z0 : n0 ≤ h0.size) (E_a : Exa Z h0 a "com/example/ewig/ewig/LogRotation") (F_a_size : Fld Z h0 a "com/example/ewig/ewig/LogRotation" "size" "I" (.int (0 : Int32))) (F_a_keep : Fld Z h0 a "com/example/ewig/ewig/LogRotation" "keep" "I" (.int (0 : Int32))) (g_a : n0 ≤ a) :
    MetFree l (⟨"com/example/ewig/ewig/LogRotation", "<init>", "(II)V"⟩ : MethodName) (head1 (Jvm.Cond.code (⟨"com/example/ewig/ewig/LogRotation", "<init>", "(II)V"⟩ : MethodName) prog_4_method_1_code 3 none :: ws) ({ frames := 1, cells := 0, slots := 0, locals := 12 } : Room)) (fun xa xU => xa = #[(.ref a), (.int p1), (.int p2)] ∧ Z.Warmed39 xU.vm ∧ xU.heap = h0) (fun _ _ _ _ _ => True) (fun _ xU xo xV => ∃ v L, xo = .returned v ∧ own_Q_own_init Z a p1 p2 h0 n0 v xV.heap L ∧ FrameEnd xU xo xV L ({ frames := 1, cells := 0, slots := 0, locals := 12 } : Room).cells ({ frames := 1, cells := 0, slots := 0, locals := 12 } : Room).slots) := by
  refine MetFree.of_bodySF (plainFor_of_name own_pn555926024) hisR ?_
  intro p e s m args below meth c s₁ Bd hml0 hP hK
  obtain ⟨rfl, hZ, hh⟩ := hP
  have hx := Bd.exec
  have hby := Bd.bytes
  have hlk := Bd.notSynchronized
  have hret := Bd.returns
  have hml : c.maxLocals = 3 := hml0
  have hown : s.vm.findClass "com/example/ewig/ewig/LogRotation" = some m.cls := findClass_of_methodNamed Bd.named
  have hnm := (name_of_methodNamed Bd.named Bd.method).1
  have X0 : Stand p l e ({ frames := 1, cells := 0, slots := 0, locals := 12 } : Room) s m #[(.ref a), (.int p1), (.int p2)] below meth c s₁ [] 0 0 := Stand.of_body Bd
  have e0 : s₁.heap = h0 := by rw [← hh, Bd.state]; rfl
  have N0 := Fr.nil n0
  show own_Gl p e below s (own_Q_own_init Z a p1 p2 h0 n0) ({ frames := 1, cells := 0, slots := 0, locals := 12 } : Room).cells ({ frames := 1, cells := 0, slots := 0, locals := 12 } : Room).slots _
  refine own_cast (own_ef_own_init m a p1 p2) ?_
  show own_Gl _ _ _ _ _ _ _ (s₁.setTop (mkF m 0 #[.val (.ref a), .val (.int p1), .val (.int p2)] []))
  refine own_st (fun _ k => XS.aloadN X0.here hx rfl (hb hby own_d_prog_4_method_1_code_0) rfl rfl k) ?_
  show own_Gl _ _ _ _ _ _ _ (s₁.setTop (mkF m 1 #[.val (.ref a), .val (.int p1), .val (.int p2)] [(.ref a)]))
  obtain ⟨T1, X1, e1, st1⟩ := initO X0 hx hZ hown (hw _ (List.mem_of_getElem? (i := 6) rfl)) (hw _ (List.mem_of_getElem? (i := 7) rfl)) (hw _ (List.mem_of_getElem? (i := 8) rfl)) e0 (g := (mkF m 1 #[.val (.ref a), .val (.int p1), .val (.int p2)] [(.ref a)])) rfl (by rw [hml]; rfl) rfl (hb hby own_d_prog_4_method_1_code_1) (by decide) (W := 0) (by show 2 * 0 + _ ≤ _; exact Nat.le_of_eq rfl) (by decide)
  refine own_st st1 ?_
  show own_Gl _ _ _ _ _ _ _ (T1.setTop (mkF m 4 #[.val (.ref a), .val (.int p1), .val (.int p2)] []))
  refine own_st (fun _ k => XS.aloadN X1.here hx rfl (hb hby own_d_prog_4_method_1_code_4) rfl rfl k) ?_
  show own_Gl _ _ _ _ _ _ _ (T1.setTop (mkF m 5 #[.val (.ref a), .val (.int p1), .val (.int p2)] [(.ref a)]))
  refine own_st (fun _ k => XS.iloadN X1.here hx rfl (hb hby own_d_prog_4_method_1_code_5) rfl k) ?_
  show own_Gl _ _ _ _ _ _ _ (T1.setTop (mkF m 6 #[.val (.ref a), .val (.int p1), .val (.int p2)] [(.int p1), (.ref a)]))
  obtain ⟨T2, h2, X2, e2, W2, st2⟩ := putF X1 hx hZ hown (host := "") (Or.inl (hw _ (List.mem_of_getElem? (i := 9) rfl))) Via.refl e1 F_a_size E_a (Or.inr ⟨(hw _ (List.mem_of_getElem? (i := 10) rfl)), rfl, hnm⟩) (hw _ (List.mem_of_getElem? (i := 1) rfl)) (ty := .int) (by decide) rfl rfl (g := (mkF m 6 #[.val (.ref a), .val (.int p1), .val (.int p2)] [(.int p1), (.ref a)])) rfl rfl (hb hby own_d_prog_4_method_1_code_6)
  have N2 := Fr.snoc X2 N0 g_a
  refine own_st st2 ?_
  have Zs3 : n0 ≤ h2.size := Nat.le_trans Z0 (Keep.of_wr W2).1
  have Fw2 := F_a_size.same W2
  show own_Gl _ _ _ _ _ _ _ (T2.setTop (mkF m 9 #[.val (.ref a), .val (.int p1), .val (.int p2)] []))
  refine own_st (fun _ k => XS.aloadN X2.here hx rfl (hb hby own_d_prog_4_method_1_code_9) rfl rfl k) ?_
  show own_Gl _ _ _ _ _ _ _ (T2.setTop (mkF m 10 #[.val (.ref a), .val (.int p1), .val (.int p2)] [(.ref a)]))
  refine own_st (fun _ k => XS.iloadN X2.here hx rfl (hb hby own_d_prog_4_method_1_code_10) rfl k) ?_
  show own_Gl _ _ _ _ _ _ _ (T2.setTop (mkF m 11 #[.val (.ref a), .val (.int p1), .val (.int p2)] [(.int p2), (.ref a)]))
  have f4 := (E_a.wr W2)
  have f5 := (F_a_keep.other W2 (Or.inr (slot_ne (Or.inr (hw _ (List.mem_of_getElem? (i := 12) rfl))) (Or.inr (hw _ (List.mem_of_getElem? (i := 10) rfl))) (by decide) (t := .int) (t' := .int) (by decide) (by decide))))
  obtain ⟨T6, h6, X6, e6, W6, st6⟩ := putF X2 hx hZ hown (host := "") (Or.inl (hw _ (List.mem_of_getElem? (i := 11) rfl))) Via.refl e2 f5 f4 (Or.inr ⟨(hw _ (List.mem_of_getElem? (i := 12) rfl)), rfl, hnm⟩) (hw _ (List.mem_of_getElem? (i := 1) rfl)) (ty := .int) (by decide) rfl rfl (g := (mkF m 11 #[.val (.ref a), .val (.int p1), .val (.int p2)] [(.int p2), (.ref a)])) rfl rfl (hb hby own_d_prog_4_method_1_code_11)
  have N6 := Fr.snoc X6 N2 g_a
  refine own_st st6 ?_
  have Zs7 : n0 ≤ h6.size := Nat.le_trans Zs3 (Keep.of_wr W6).1
  have Fw6 := f5.same W6
  show own_Gl _ _ _ _ _ _ _ (T6.setTop (mkF m 14 #[.val (.ref a), .val (.int p1), .val (.int p2)] []))
  have K8 : Keep h0 h6 [a] := (((Keep.refl h0 [a]).wr W2 (Or.inl (List.mem_of_getElem? (i := 0) rfl))).wr W6 (Or.inl (List.mem_of_getElem? (i := 0) rfl)))
  have f9 := (Fw2.other W6 (Or.inr (slot_ne (Or.inr (hw _ (List.mem_of_getElem? (i := 10) rfl))) (Or.inr (hw _ (List.mem_of_getElem? (i := 12) rfl))) (by decide) (t := .int) (t' := .int) (by decide) (by decide))))
  exact own_retV X6 hx hlk hret (hb hby own_d_prog_4_method_1_code_14) e6 ⟨rfl, N6, K8, f9, Fw6⟩ (by decide) (by decide)
theorem own_d_prog_4_method_5_code_0 : decode prog_4_method_5_code 0 = .ok (.bipush 31, 2) := by decide +kernel
theorem own_d_prog_4_method_5_code_2 : decode prog_4_method_5_code 2 = .ok (.aload_n 0, 1) := by decide +kernel
theorem own_d_prog_4_method_5_code_3 : decode prog_4_method_5_code 3 = .ok (.getfield 7, 3) := by decide +kernel
theorem own_d_prog_4_method_5_code_6 : decode prog_4_method_5_code 6 = .ok (.imul, 1) := by decide +kernel
theorem own_d_prog_4_method_5_code_7 : decode prog_4_method_5_code 7 = .ok (.aload_n 0, 1) := by decide +kernel
theorem own_d_prog_4_method_5_code_8 : decode prog_4_method_5_code 8 = .ok (.getfield 13, 3) := by decide +kernel
theorem own_d_prog_4_method_5_code_11 : decode prog_4_method_5_code 11 = .ok (.iadd, 1) := by decide +kernel
theorem own_d_prog_4_method_5_code_12 : decode prog_4_method_5_code 12 = .ok (.ireturn, 1) := by decide +kernel
theorem own_ef_own_hash (m : MethodId) (x0 : Addr) : entryFrame m #[(.ref x0)] 1 = mkF m 0 #[.val (.ref x0)] [] := by first | (simp [entryFrame, mkF, argsToLocals, Value.category]; done) | rfl
def own_Q_own_hash (Z : State) (a : Addr) (p1 : Int32) (p2 : Int32) (h0 : Heap) (n0 : Nat) (v : Option Value) (h : Heap) (L : List Loc) : Prop := (v = some (.int (((31 : Int32) * p1) + p2))) ∧ (Fr n0 L) ∧ (h = h0)
set_option maxRecDepth 65536 in
set_option maxHeartbeats 40000000 in
theorem own_hash (l : Launch) (Z : State) (a0 : Array Value) (hw : ∀ d ∈ tables_1, d.before a0 Z = true) (ws : List Jvm.Cond) (a : Addr) (p1 : Int32) (p2 : Int32) (h0 : Heap) (n0 : Nat) (Z0 : n0 ≤ h0.size) (F_a_size : Fld Z h0 a "com/example/ewig/ewig/LogRotation" "size" "I" (.int p1)) (F_a_keep : Fld Z h0 a "com/example/ewig/ewig/LogRotation" "keep" "I" (.int p2)) :
    MetFree l (⟨"com/example/ewig/ewig/LogRotation", "hashCode", "()I"⟩ : MethodName) (head1 (Jvm.Cond.code (⟨"com/example/ewig/ewig/LogRotation", "hashCode", "()I"⟩ : MethodName) prog_4_method_5_code 1 (some .int) :: ws) ({ frames := 0, cells := 0, slots := 0, locals := 0 } : Room)) (fun xa xU => xa = #[(.ref a)] ∧ Z.Warmed39 xU.vm ∧ xU.heap = h0) (fun _ _ _ _ _ => True) (fun _ xU xo xV => ∃ v L, xo = .returned v ∧ own_Q_own_hash Z a p1 p2 h0 n0 v xV.heap L ∧ FrameEnd xU xo xV L ({ frames := 0, cells := 0, slots := 0, locals := 0 } : Room).cells ({ frames := 0, cells := 0, slots := 0, locals := 0 } : Room).slots) := by
  refine MetFree.of_bodySF (plainFor_of_name own_pn555926024) hisR ?_
  intro p e s m args below meth c s₁ Bd hml0 hP hK
  obtain ⟨rfl, hZ, hh⟩ := hP
  have hx := Bd.exec
  have hby := Bd.bytes
  have hlk := Bd.notSynchronized
  have hret := Bd.returns
  have hml : c.maxLocals = 1 := hml0
  have hown : s.vm.findClass "com/example/ewig/ewig/LogRotation" = some m.cls := findClass_of_methodNamed Bd.named
  have hnm := (name_of_methodNamed Bd.named Bd.method).1
  have X0 : Stand p l e ({ frames := 0, cells := 0, slots := 0, locals := 0 } : Room) s m #[(.ref a)] below meth c s₁ [] 0 0 := Stand.of_body Bd
  have e0 : s₁.heap = h0 := by rw [← hh, Bd.state]; rfl
  have N0 := Fr.nil n0
  show own_Gl p e below s (own_Q_own_hash Z a p1 p2 h0 n0) ({ frames := 0, cells := 0, slots := 0, locals := 0 } : Room).cells ({ frames := 0, cells := 0, slots := 0, locals := 0 } : Room).slots _
  refine own_cast (own_ef_own_hash m a) ?_
  show own_Gl _ _ _ _ _ _ _ (s₁.setTop (mkF m 0 #[.val (.ref a)] []))
  refine own_st (fun _ k => XS.bipush X0.here hx rfl (hb hby own_d_prog_4_method_5_code_0) k) ?_
  show own_Gl _ _ _ _ _ _ _ (s₁.setTop (mkF m 2 #[.val (.ref a)] [(.int (31 : Int32))]))
  refine own_st (fun _ k => XS.aloadN X0.here hx rfl (hb hby own_d_prog_4_method_5_code_2) rfl rfl k) ?_
  show own_Gl _ _ _ _ _ _ _ (s₁.setTop (mkF m 3 #[.val (.ref a)] [(.ref a), (.int (31 : Int32))]))
  obtain ⟨T1, X1, e1, st1⟩ := getF X0 hx hZ hown (host := "") (Or.inl (hw _ (List.mem_of_getElem? (i := 9) rfl))) Via.refl e0 F_a_size (g := (mkF m 3 #[.val (.ref a)] [(.ref a), (.int (31 : Int32))])) rfl rfl (hb hby own_d_prog_4_method_5_code_3)
  refine own_st st1 ?_
  show own_Gl _ _ _ _ _ _ _ (T1.setTop (mkF m 6 #[.val (.ref a)] [(.int p1), (.int (31 : Int32))]))
  refine own_st (fun _ k => XS.imul X1.here hx rfl (hb hby own_d_prog_4_method_5_code_6) rfl k) ?_
  show own_Gl _ _ _ _ _ _ _ (T1.setTop (mkF m 7 #[.val (.ref a)] [(.int ((31 : Int32) * p1))]))
  refine own_st (fun _ k => XS.aloadN X1.here hx rfl (hb hby own_d_prog_4_method_5_code_7) rfl rfl k) ?_
  show own_Gl _ _ _ _ _ _ _ (T1.setTop (mkF m 8 #[.val (.ref a)] [(.ref a), (.int ((31 : Int32) * p1))]))
  obtain ⟨T2, X2, e2, st2⟩ := getF X1 hx hZ hown (host := "") (Or.inl (hw _ (List.mem_of_getElem? (i := 11) rfl))) Via.refl e1 F_a_keep (g := (mkF m 8 #[.val (.ref a)] [(.ref a), (.int ((31 : Int32) * p1))])) rfl rfl (hb hby own_d_prog_4_method_5_code_8)
  refine own_st st2 ?_
  show own_Gl _ _ _ _ _ _ _ (T2.setTop (mkF m 11 #[.val (.ref a)] [(.int p2), (.int ((31 : Int32) * p1))]))
  refine own_st (fun _ k => XS.iadd X2.here hx rfl (hb hby own_d_prog_4_method_5_code_11) rfl k) ?_
  show own_Gl _ _ _ _ _ _ _ (T2.setTop (mkF m 12 #[.val (.ref a)] [(.int (((31 : Int32) * p1) + p2))]))
  exact own_retI X2 hx hlk hret (hb hby own_d_prog_4_method_5_code_12) e2 ⟨rfl, N0, rfl⟩ (by decide) (by decide)
theorem own_pd945365693 : parseMethodDescriptor "(II)V" = some ⟨[.int, .int], none⟩ := by decide +kernel
theorem own_pd691884 : parseMethodDescriptor "()I" = some ⟨[], some .int⟩ := by decide +kernel
theorem own_ef_own_law (m : MethodId) (x0 : Int32) (x1 : Int32) (x2 : Int32) (x3 : Int32) : entryFrame m #[(.int x0), (.int x1), (.int x2), (.int x3)] maxLocals = mkF m 0 #[.val (.int x0), .val (.int x1), .val (.int x2), .val (.int x3), .unset, .unset, .unset, .unset, .unset, .unset, .unset, .unset, .unset, .unset, .unset] [] := by first | (simp [entryFrame, mkF, argsToLocals, Value.category, maxLocals]; done) | rfl
def own_Q_own_law (Z : State) (p1 : Int32) (p2 : Int32) (p3 : Int32) (p4 : Int32) (h0 : Heap) (n0 : Nat) (v : Option Value) (h : Heap) (L : List Loc) : Prop := v = some (.int 1) ∧ Fr n0 L
theorem own_pn472756843 : plainName "com/example/ewig/ewig/LogRotationHashCodePinLaw" = true := by first | (simp [plainName, overriddenIn]; done) | decide +kernel
set_option maxRecDepth 65536 in
set_option maxHeartbeats 40000000 in
theorem own_law (l : Launch) (Z : State) (a0 : Array Value) (hw : ∀ d ∈ tables_1, d.before a0 Z = true) (ws : List Jvm.Cond) (p1 : Int32) (p2 : Int32) (p3 : Int32) (p4 : Int32) (h0 : Heap) (n0 : Nat) (Z0 : n0 ≤ h0.size) :
    MetFree l x (head1 (Jvm.Cond.code x code maxLocals ret :: ws) room_1) (fun xa xU => xa = #[(.int p1), (.int p2), (.int p3), (.int p4)] ∧ Z.Warmed39 xU.vm ∧ xU.heap = h0) (fun _ _ _ _ _ => True) (fun _ xU xo xV => ∃ v L, xo = .returned v ∧ own_Q_own_law Z p1 p2 p3 p4 h0 n0 v xV.heap L ∧ FrameEnd xU xo xV L room_1.cells room_1.slots) := by
  refine MetFree.of_bodySF (plainFor_of_name own_pn472756843) hisR ?_
  intro p e s m args below meth c s₁ Bd hml0 hP hK
  obtain ⟨rfl, hZ, hh⟩ := hP
  have hx := Bd.exec
  have hby := Bd.bytes
  have hlk := Bd.notSynchronized
  have hret := Bd.returns
  have hml : c.maxLocals = 15 := hml0
  have hown : s.vm.findClass "com/example/ewig/ewig/LogRotationHashCodePinLaw" = some m.cls := findClass_of_methodNamed Bd.named
  have hnm := (name_of_methodNamed Bd.named Bd.method).1
  have X0 : Stand p l e room_1 s m #[(.int p1), (.int p2), (.int p3), (.int p4)] below meth c s₁ [] 0 0 := Stand.of_body Bd
  have e0 : s₁.heap = h0 := by rw [← hh, Bd.state]; rfl
  have N0 := Fr.nil n0
  show own_Gl p e below s (own_Q_own_law Z p1 p2 p3 p4 h0 n0) room_1.cells room_1.slots _
  refine own_cast (own_ef_own_law m p1 p2 p3 p4) ?_
  show own_Gl _ _ _ _ _ _ _ (s₁.setTop (mkF m 0 #[.val (.int p1), .val (.int p2), .val (.int p3), .val (.int p4), .unset, .unset, .unset, .unset, .unset, .unset, .unset, .unset, .unset, .unset, .unset] []))
  obtain ⟨T1, h1, X1, e1, E1, A1, D1, -, st1⟩ := newO X0 hx hZ hown (hw _ (List.mem_of_getElem? (i := 0) rfl)) (hw _ (List.mem_of_getElem? (i := 1) rfl)) (hw _ (List.mem_of_getElem? (i := 2) rfl)) e0 (g := (mkF m 0 #[.val (.int p1), .val (.int p2), .val (.int p3), .val (.int p4), .unset, .unset, .unset, .unset, .unset, .unset, .unset, .unset, .unset, .unset, .unset] [])) rfl (hb hby at_0) (by decide) (by decide)
  obtain ⟨b1, gb1⟩ : ∃ z, z = h0.size := ⟨_, rfl⟩
  rw [← gb1] at A1 D1 st1
  refine own_st st1 ?_
  have Zs2 : n0 ≤ h1.size := Nat.le_trans Z0 E1.1
  have g_b1 : n0 ≤ b1 := Nat.le_trans Z0 (Nat.le_of_eq gb1.symm)
  have gh_b1 : h0.size ≤ b1 := Nat.le_trans (Keep.refl h0 []).1 (Nat.le_of_eq gb1.symm)
  have F_size_b1 : Fld Z h1 b1 "com/example/ewig/ewig/LogRotation" "size" "I" (.int (0 : Int32)) := D1 (Or.inr (hw _ (List.mem_of_getElem? (i := 10) rfl))) (ty := .int) (by decide)
  have F_keep_b1 : Fld Z h1 b1 "com/example/ewig/ewig/LogRotation" "keep" "I" (.int (0 : Int32)) := D1 (Or.inr (hw _ (List.mem_of_getElem? (i := 12) rfl))) (ty := .int) (by decide)
  show own_Gl _ _ _ _ _ _ _ (T1.setTop (mkF m 3 #[.val (.int p1), .val (.int p2), .val (.int p3), .val (.int p4), .unset, .unset, .unset, .unset, .unset, .unset, .unset, .unset, .unset, .unset, .unset] [(.ref b1)]))
  refine own_st (fun _ k => XS.dup X1.here hx rfl (hb hby at_3) rfl rfl k) ?_
  show own_Gl _ _ _ _ _ _ _ (T1.setTop (mkF m 4 #[.val (.int p1), .val (.int p2), .val (.int p3), .val (.int p4), .unset, .unset, .unset, .unset, .unset, .unset, .unset, .unset, .unset, .unset, .unset] [(.ref b1), (.ref b1)]))
  refine own_st (fun _ k => XS.iloadN X1.here hx rfl (hb hby at_4) rfl k) ?_
  show own_Gl _ _ _ _ _ _ _ (T1.setTop (mkF m 5 #[.val (.int p1), .val (.int p2), .val (.int p3), .val (.int p4), .unset, .unset, .unset, .unset, .unset, .unset, .unset, .unset, .unset, .unset, .unset] [(.int p1), (.ref b1), (.ref b1)]))
  refine own_st (fun _ k => XS.iloadN X1.here hx rfl (hb hby at_5) rfl k) ?_
  show own_Gl _ _ _ _ _ _ _ (T1.setTop (mkF m 6 #[.val (.int p1), .val (.int p2), .val (.int p3), .val (.int p4), .unset, .unset, .unset, .unset, .unset, .unset, .unset, .unset, .unset, .unset, .unset] [(.int p2), (.int p1), (.ref b1), (.ref b1)]))
  obtain ⟨_, _, ⟨T4, L4, k4, n4⟩, -, X4, ⟨Lc4, hQ4, l4, y4, z4⟩, st4⟩ := X1.specialBack hx (y := (⟨"com/example/ewig/ewig/LogRotation", "<init>", "(II)V"⟩ : MethodName)) rfl hown (mvT hZ (hw _ (List.mem_of_getElem? (i := 3) rfl))) (mvT hZ (hw _ (List.mem_of_getElem? (i := 4) rfl))) (mvT hZ (hw _ (List.mem_of_getElem? (i := 5) rfl))) (by decide) (backOf (W := 1) (own_init l Z a0 hw [] b1 p1 p2 h1 n0 Zs2 A1 F_size_b1 F_keep_b1 g_b1) hZ (hw _ (List.mem_of_getElem? (i := 5) rfl)) (hw _ (List.mem_of_getElem? (i := 2) rfl)) (by decide) (by decide)) (g := (mkF m 6 #[.val (.int p1), .val (.int p2), .val (.int p3), .val (.int p4), .unset, .unset, .unset, .unset, .unset, .unset, .unset, .unset, .unset, .unset, .unset] [(.int p2), (.int p1), (.ref b1), (.ref b1)])) rfl (by rw [hml]; rfl) (Steps.refl _) (a := b1) (argsL := [(.int p1), (.int p2)]) (rest := [(.ref b1)]) (lenOf own_pd945365693 rfl) rfl (by show 2 * 0 + _ ≤ _; exact Nat.le_of_eq rfl) (hb hby at_6) (fun _ _ => ⟨rfl, e1, (by decide : 1 + 0 ≤ room_1.cells), (by decide : 2 + 0 ≤ room_1.slots)⟩)
  dsimp only [Pt.U, Pt.locs, Pt.cells, Pt.slots] at X4 l4 y4 z4 st4 hQ4
  subst l4 y4 z4
  obtain ⟨hh4, eh04⟩ : ∃ z, T4.heap = z := ⟨_, rfl⟩
  rw [eh04] at hQ4
  obtain ⟨rfl, Nq4, Kq4, P4_0, P4_1⟩ := hQ4
  have N4 := Fr.app N0 Nq4
  refine own_tr st4 ?_
  have Zs5 : n0 ≤ hh4.size := Nat.le_trans Zs2 Kq4.1
  show own_Gl _ _ _ _ _ _ _ (T4.setTop (mkF m 9 #[.val (.int p1), .val (.int p2), .val (.int p3), .val (.int p4), .unset, .unset, .unset, .unset, .unset, .unset, .unset, .unset, .unset, .unset, .unset] [(.ref b1)]))
  refine own_st (fun _ k => XS.astore X4.here hx rfl (hb hby at_9) rfl rfl (l' := #[.val (.int p1), .val (.int p2), .val (.int p3), .val (.int p4), .val (.ref b1), .unset, .unset, .unset, .unset, .unset, .unset, .unset, .unset, .unset, .unset]) rfl k) ?_
  show own_Gl _ _ _ _ _ _ _ (T4.setTop (mkF m 11 #[.val (.int p1), .val (.int p2), .val (.int p3), .val (.int p4), .val (.ref b1), .unset, .unset, .unset, .unset, .unset, .unset, .unset, .unset, .unset, .unset] []))
  have f6 := (A1.keep Kq4)
  have K7 : Keep h0 hh4 [] := (((Keep.refl h0 []).ext E1).trans Kq4 (allS (Or.inr gh_b1) all0))
  obtain ⟨T8, h8, X8, e8, E8, A8, D8, -, st8⟩ := newO X4 hx hZ hown (hw _ (List.mem_of_getElem? (i := 0) rfl)) (hw _ (List.mem_of_getElem? (i := 1) rfl)) (hw _ (List.mem_of_getElem? (i := 2) rfl)) eh04 (g := (mkF m 11 #[.val (.int p1), .val (.int p2), .val (.int p3), .val (.int p4), .val (.ref b1), .unset, .unset, .unset, .unset, .unset, .unset, .unset, .unset, .unset, .unset] [])) rfl (hb hby at_11) (by decide) (by decide)
  obtain ⟨b8, gb8⟩ : ∃ z, z = hh4.size := ⟨_, rfl⟩
  rw [← gb8] at A8 D8 st8
  refine own_st st8 ?_
  have Zs9 : n0 ≤ h8.size := Nat.le_trans Zs5 E8.1
  have g_b8 : n0 ≤ b8 := Nat.le_trans Zs5 (Nat.le_of_eq gb8.symm)
  have gh_b8 : h0.size ≤ b8 := Nat.le_trans K7.1 (Nat.le_of_eq gb8.symm)
  have ne_b1_b8 : b1 ≠ b8 := Nat.ne_of_lt (Nat.lt_of_lt_of_le f6.lt (Nat.le_of_eq gb8.symm))
  have F_size_b8 : Fld Z h8 b8 "com/example/ewig/ewig/LogRotation" "size" "I" (.int (0 : Int32)) := D8 (Or.inr (hw _ (List.mem_of_getElem? (i := 10) rfl))) (ty := .int) (by decide)
  have F_keep_b8 : Fld Z h8 b8 "com/example/ewig/ewig/LogRotation" "keep" "I" (.int (0 : Int32)) := D8 (Or.inr (hw _ (List.mem_of_getElem? (i := 12) rfl))) (ty := .int) (by decide)
  show own_Gl _ _ _ _ _ _ _ (T8.setTop (mkF m 14 #[.val (.int p1), .val (.int p2), .val (.int p3), .val (.int p4), .val (.ref b1), .unset, .unset, .unset, .unset, .unset, .unset, .unset, .unset, .unset, .unset] [(.ref b8)]))
  refine own_st (fun _ k => XS.dup X8.here hx rfl (hb hby at_14) rfl rfl k) ?_
  show own_Gl _ _ _ _ _ _ _ (T8.setTop (mkF m 15 #[.val (.int p1), .val (.int p2), .val (.int p3), .val (.int p4), .val (.ref b1), .unset, .unset, .unset, .unset, .unset, .unset, .unset, .unset, .unset, .unset] [(.ref b8), (.ref b8)]))
  refine own_st (fun _ k => XS.iloadN X8.here hx rfl (hb hby at_15) rfl k) ?_
  show own_Gl _ _ _ _ _ _ _ (T8.setTop (mkF m 16 #[.val (.int p1), .val (.int p2), .val (.int p3), .val (.int p4), .val (.ref b1), .unset, .unset, .unset, .unset, .unset, .unset, .unset, .unset, .unset, .unset] [(.int p1), (.ref b8), (.ref b8)]))
  refine own_st (fun _ k => XS.iloadN X8.here hx rfl (hb hby at_16) rfl k) ?_
  show own_Gl _ _ _ _ _ _ _ (T8.setTop (mkF m 17 #[.val (.int p1), .val (.int p2), .val (.int p3), .val (.int p4), .val (.ref b1), .unset, .unset, .unset, .unset, .unset, .unset, .unset, .unset, .unset, .unset] [(.int p2), (.int p1), (.ref b8), (.ref b8)]))
  have f12 := (f6.ext E8)
  obtain ⟨_, _, ⟨T11, L11, k11, n11⟩, -, X11, ⟨Lc11, hQ11, l11, y11, z11⟩, st11⟩ := X8.specialBack hx (y := (⟨"com/example/ewig/ewig/LogRotation", "<init>", "(II)V"⟩ : MethodName)) rfl hown (mvT hZ (hw _ (List.mem_of_getElem? (i := 3) rfl))) (mvT hZ (hw _ (List.mem_of_getElem? (i := 4) rfl))) (mvT hZ (hw _ (List.mem_of_getElem? (i := 5) rfl))) (by decide) (backOf (W := 1) (own_init l Z a0 hw [] b8 p1 p2 h8 n0 Zs9 A8 F_size_b8 F_keep_b8 g_b8) hZ (hw _ (List.mem_of_getElem? (i := 5) rfl)) (hw _ (List.mem_of_getElem? (i := 2) rfl)) (by decide) (by decide)) (g := (mkF m 17 #[.val (.int p1), .val (.int p2), .val (.int p3), .val (.int p4), .val (.ref b1), .unset, .unset, .unset, .unset, .unset, .unset, .unset, .unset, .unset, .unset] [(.int p2), (.int p1), (.ref b8), (.ref b8)])) rfl (by rw [hml]; rfl) (Steps.refl _) (a := b8) (argsL := [(.int p1), (.int p2)]) (rest := [(.ref b8)]) (lenOf own_pd945365693 rfl) rfl (by show 2 * 0 + _ ≤ _; exact Nat.le_of_eq rfl) (hb hby at_17) (fun _ _ => ⟨rfl, e8, (by decide : 2 + 0 ≤ room_1.cells), (by decide : 4 + 0 ≤ room_1.slots)⟩)
  dsimp only [Pt.U, Pt.locs, Pt.cells, Pt.slots] at X11 l11 y11 z11 st11 hQ11
  subst l11 y11 z11
  obtain ⟨hh11, eh011⟩ : ∃ z, T11.heap = z := ⟨_, rfl⟩
  rw [eh011] at hQ11
  obtain ⟨rfl, Nq11, Kq11, P11_0, P11_1⟩ := hQ11
  have N11 := Fr.app N4 Nq11
  refine own_tr st11 ?_
  have Zs13 : n0 ≤ hh11.size := Nat.le_trans Zs9 Kq11.1
  show own_Gl _ _ _ _ _ _ _ (T11.setTop (mkF m 20 #[.val (.int p1), .val (.int p2), .val (.int p3), .val (.int p4), .val (.ref b1), .unset, .unset, .unset, .unset, .unset, .unset, .unset, .unset, .unset, .unset] [(.ref b8)]))
  refine own_st (fun _ k => XS.astore X11.here hx rfl (hb hby at_20) rfl rfl (l' := #[.val (.int p1), .val (.int p2), .val (.int p3), .val (.int p4), .val (.ref b1), .val (.ref b8), .unset, .unset, .unset, .unset, .unset, .unset, .unset, .unset, .unset]) rfl k) ?_
  show own_Gl _ _ _ _ _ _ _ (T11.setTop (mkF m 22 #[.val (.int p1), .val (.int p2), .val (.int p3), .val (.int p4), .val (.ref b1), .val (.ref b8), .unset, .unset, .unset, .unset, .unset, .unset, .unset, .unset, .unset] []))
  have f14 := (f12.keep Kq11)
  have f15 := (A8.keep Kq11)
  have K16 : Keep h0 hh11 [] := ((K7.ext E8).trans Kq11 (allS (Or.inr gh_b8) all0))
  obtain ⟨T17, h17, X17, e17, E17, A17, D17, -, st17⟩ := newO X11 hx hZ hown (hw _ (List.mem_of_getElem? (i := 0) rfl)) (hw _ (List.mem_of_getElem? (i := 1) rfl)) (hw _ (List.mem_of_getElem? (i := 2) rfl)) eh011 (g := (mkF m 22 #[.val (.int p1), .val (.int p2), .val (.int p3), .val (.int p4), .val (.ref b1), .val (.ref b8), .unset, .unset, .unset, .unset, .unset, .unset, .unset, .unset, .unset] [])) rfl (hb hby at_22) (by decide) (by decide)
  obtain ⟨b17, gb17⟩ : ∃ z, z = hh11.size := ⟨_, rfl⟩
  rw [← gb17] at A17 D17 st17
  refine own_st st17 ?_
  have Zs18 : n0 ≤ h17.size := Nat.le_trans Zs13 E17.1
  have g_b17 : n0 ≤ b17 := Nat.le_trans Zs13 (Nat.le_of_eq gb17.symm)
  have gh_b17 : h0.size ≤ b17 := Nat.le_trans K16.1 (Nat.le_of_eq gb17.symm)
  have ne_b1_b17 : b1 ≠ b17 := Nat.ne_of_lt (Nat.lt_of_lt_of_le f14.lt (Nat.le_of_eq gb17.symm))
  have ne_b8_b17 : b8 ≠ b17 := Nat.ne_of_lt (Nat.lt_of_lt_of_le f15.lt (Nat.le_of_eq gb17.symm))
  have F_size_b17 : Fld Z h17 b17 "com/example/ewig/ewig/LogRotation" "size" "I" (.int (0 : Int32)) := D17 (Or.inr (hw _ (List.mem_of_getElem? (i := 10) rfl))) (ty := .int) (by decide)
  have F_keep_b17 : Fld Z h17 b17 "com/example/ewig/ewig/LogRotation" "keep" "I" (.int (0 : Int32)) := D17 (Or.inr (hw _ (List.mem_of_getElem? (i := 12) rfl))) (ty := .int) (by decide)
  show own_Gl _ _ _ _ _ _ _ (T17.setTop (mkF m 25 #[.val (.int p1), .val (.int p2), .val (.int p3), .val (.int p4), .val (.ref b1), .val (.ref b8), .unset, .unset, .unset, .unset, .unset, .unset, .unset, .unset, .unset] [(.ref b17)]))
  refine own_st (fun _ k => XS.dup X17.here hx rfl (hb hby at_25) rfl rfl k) ?_
  show own_Gl _ _ _ _ _ _ _ (T17.setTop (mkF m 26 #[.val (.int p1), .val (.int p2), .val (.int p3), .val (.int p4), .val (.ref b1), .val (.ref b8), .unset, .unset, .unset, .unset, .unset, .unset, .unset, .unset, .unset] [(.ref b17), (.ref b17)]))
  refine own_st (fun _ k => XS.iloadN X17.here hx rfl (hb hby at_26) rfl k) ?_
  show own_Gl _ _ _ _ _ _ _ (T17.setTop (mkF m 27 #[.val (.int p1), .val (.int p2), .val (.int p3), .val (.int p4), .val (.ref b1), .val (.ref b8), .unset, .unset, .unset, .unset, .unset, .unset, .unset, .unset, .unset] [(.int p3), (.ref b17), (.ref b17)]))
  refine own_st (fun _ k => XS.iloadN X17.here hx rfl (hb hby at_27) rfl k) ?_
  show own_Gl _ _ _ _ _ _ _ (T17.setTop (mkF m 28 #[.val (.int p1), .val (.int p2), .val (.int p3), .val (.int p4), .val (.ref b1), .val (.ref b8), .unset, .unset, .unset, .unset, .unset, .unset, .unset, .unset, .unset] [(.int p2), (.int p3), (.ref b17), (.ref b17)]))
  have f21 := (f14.ext E17)
  have f22 := (f15.ext E17)
  obtain ⟨_, _, ⟨T20, L20, k20, n20⟩, -, X20, ⟨Lc20, hQ20, l20, y20, z20⟩, st20⟩ := X17.specialBack hx (y := (⟨"com/example/ewig/ewig/LogRotation", "<init>", "(II)V"⟩ : MethodName)) rfl hown (mvT hZ (hw _ (List.mem_of_getElem? (i := 3) rfl))) (mvT hZ (hw _ (List.mem_of_getElem? (i := 4) rfl))) (mvT hZ (hw _ (List.mem_of_getElem? (i := 5) rfl))) (by decide) (backOf (W := 1) (own_init l Z a0 hw [] b17 p3 p2 h17 n0 Zs18 A17 F_size_b17 F_keep_b17 g_b17) hZ (hw _ (List.mem_of_getElem? (i := 5) rfl)) (hw _ (List.mem_of_getElem? (i := 2) rfl)) (by decide) (by decide)) (g := (mkF m 28 #[.val (.int p1), .val (.int p2), .val (.int p3), .val (.int p4), .val (.ref b1), .val (.ref b8), .unset, .unset, .unset, .unset, .unset, .unset, .unset, .unset, .unset] [(.int p2), (.int p3), (.ref b17), (.ref b17)])) rfl (by rw [hml]; rfl) (Steps.refl _) (a := b17) (argsL := [(.int p3), (.int p2)]) (rest := [(.ref b17)]) (lenOf own_pd945365693 rfl) rfl (by show 2 * 0 + _ ≤ _; exact Nat.le_of_eq rfl) (hb hby at_28) (fun _ _ => ⟨rfl, e17, (by decide : 3 + 0 ≤ room_1.cells), (by decide : 6 + 0 ≤ room_1.slots)⟩)
  dsimp only [Pt.U, Pt.locs, Pt.cells, Pt.slots] at X20 l20 y20 z20 st20 hQ20
  subst l20 y20 z20
  obtain ⟨hh20, eh020⟩ : ∃ z, T20.heap = z := ⟨_, rfl⟩
  rw [eh020] at hQ20
  obtain ⟨rfl, Nq20, Kq20, P20_0, P20_1⟩ := hQ20
  have N20 := Fr.app N11 Nq20
  refine own_tr st20 ?_
  have Zs23 : n0 ≤ hh20.size := Nat.le_trans Zs18 Kq20.1
  show own_Gl _ _ _ _ _ _ _ (T20.setTop (mkF m 31 #[.val (.int p1), .val (.int p2), .val (.int p3), .val (.int p4), .val (.ref b1), .val (.ref b8), .unset, .unset, .unset, .unset, .unset, .unset, .unset, .unset, .unset] [(.ref b17)]))
  refine own_st (fun _ k => XS.astore X20.here hx rfl (hb hby at_31) rfl rfl (l' := #[.val (.int p1), .val (.int p2), .val (.int p3), .val (.int p4), .val (.ref b1), .val (.ref b8), .val (.ref b17), .unset, .unset, .unset, .unset, .unset, .unset, .unset, .unset]) rfl k) ?_
  show own_Gl _ _ _ _ _ _ _ (T20.setTop (mkF m 33 #[.val (.int p1), .val (.int p2), .val (.int p3), .val (.int p4), .val (.ref b1), .val (.ref b8), .val (.ref b17), .unset, .unset, .unset, .unset, .unset, .unset, .unset, .unset] []))
  have f24 := (f21.keep Kq20)
  have f25 := (f22.keep Kq20)
  have f26 := (A17.keep Kq20)
  have K27 : Keep h0 hh20 [] := ((K16.ext E17).trans Kq20 (allS (Or.inr gh_b17) all0))
  obtain ⟨T28, h28, X28, e28, E28, A28, D28, -, st28⟩ := newO X20 hx hZ hown (hw _ (List.mem_of_getElem? (i := 0) rfl)) (hw _ (List.mem_of_getElem? (i := 1) rfl)) (hw _ (List.mem_of_getElem? (i := 2) rfl)) eh020 (g := (mkF m 33 #[.val (.int p1), .val (.int p2), .val (.int p3), .val (.int p4), .val (.ref b1), .val (.ref b8), .val (.ref b17), .unset, .unset, .unset, .unset, .unset, .unset, .unset, .unset] [])) rfl (hb hby at_33) (by decide) (by decide)
  obtain ⟨b28, gb28⟩ : ∃ z, z = hh20.size := ⟨_, rfl⟩
  rw [← gb28] at A28 D28 st28
  refine own_st st28 ?_
  have Zs29 : n0 ≤ h28.size := Nat.le_trans Zs23 E28.1
  have g_b28 : n0 ≤ b28 := Nat.le_trans Zs23 (Nat.le_of_eq gb28.symm)
  have gh_b28 : h0.size ≤ b28 := Nat.le_trans K27.1 (Nat.le_of_eq gb28.symm)
  have ne_b1_b28 : b1 ≠ b28 := Nat.ne_of_lt (Nat.lt_of_lt_of_le f24.lt (Nat.le_of_eq gb28.symm))
  have ne_b8_b28 : b8 ≠ b28 := Nat.ne_of_lt (Nat.lt_of_lt_of_le f25.lt (Nat.le_of_eq gb28.symm))
  have ne_b17_b28 : b17 ≠ b28 := Nat.ne_of_lt (Nat.lt_of_lt_of_le f26.lt (Nat.le_of_eq gb28.symm))
  have F_size_b28 : Fld Z h28 b28 "com/example/ewig/ewig/LogRotation" "size" "I" (.int (0 : Int32)) := D28 (Or.inr (hw _ (List.mem_of_getElem? (i := 10) rfl))) (ty := .int) (by decide)
  have F_keep_b28 : Fld Z h28 b28 "com/example/ewig/ewig/LogRotation" "keep" "I" (.int (0 : Int32)) := D28 (Or.inr (hw _ (List.mem_of_getElem? (i := 12) rfl))) (ty := .int) (by decide)
  show own_Gl _ _ _ _ _ _ _ (T28.setTop (mkF m 36 #[.val (.int p1), .val (.int p2), .val (.int p3), .val (.int p4), .val (.ref b1), .val (.ref b8), .val (.ref b17), .unset, .unset, .unset, .unset, .unset, .unset, .unset, .unset] [(.ref b28)]))
  refine own_st (fun _ k => XS.dup X28.here hx rfl (hb hby at_36) rfl rfl k) ?_
  show own_Gl _ _ _ _ _ _ _ (T28.setTop (mkF m 37 #[.val (.int p1), .val (.int p2), .val (.int p3), .val (.int p4), .val (.ref b1), .val (.ref b8), .val (.ref b17), .unset, .unset, .unset, .unset, .unset, .unset, .unset, .unset] [(.ref b28), (.ref b28)]))
  refine own_st (fun _ k => XS.iloadN X28.here hx rfl (hb hby at_37) rfl k) ?_
  show own_Gl _ _ _ _ _ _ _ (T28.setTop (mkF m 38 #[.val (.int p1), .val (.int p2), .val (.int p3), .val (.int p4), .val (.ref b1), .val (.ref b8), .val (.ref b17), .unset, .unset, .unset, .unset, .unset, .unset, .unset, .unset] [(.int p1), (.ref b28), (.ref b28)]))
  refine own_st (fun _ k => XS.iloadN X28.here hx rfl (hb hby at_38) rfl k) ?_
  show own_Gl _ _ _ _ _ _ _ (T28.setTop (mkF m 39 #[.val (.int p1), .val (.int p2), .val (.int p3), .val (.int p4), .val (.ref b1), .val (.ref b8), .val (.ref b17), .unset, .unset, .unset, .unset, .unset, .unset, .unset, .unset] [(.int p4), (.int p1), (.ref b28), (.ref b28)]))
  have f32 := (f24.ext E28)
  have f33 := (f25.ext E28)
  have f34 := (f26.ext E28)
  obtain ⟨_, _, ⟨T31, L31, k31, n31⟩, -, X31, ⟨Lc31, hQ31, l31, y31, z31⟩, st31⟩ := X28.specialBack hx (y := (⟨"com/example/ewig/ewig/LogRotation", "<init>", "(II)V"⟩ : MethodName)) rfl hown (mvT hZ (hw _ (List.mem_of_getElem? (i := 3) rfl))) (mvT hZ (hw _ (List.mem_of_getElem? (i := 4) rfl))) (mvT hZ (hw _ (List.mem_of_getElem? (i := 5) rfl))) (by decide) (backOf (W := 1) (own_init l Z a0 hw [] b28 p1 p4 h28 n0 Zs29 A28 F_size_b28 F_keep_b28 g_b28) hZ (hw _ (List.mem_of_getElem? (i := 5) rfl)) (hw _ (List.mem_of_getElem? (i := 2) rfl)) (by decide) (by decide)) (g := (mkF m 39 #[.val (.int p1), .val (.int p2), .val (.int p3), .val (.int p4), .val (.ref b1), .val (.ref b8), .val (.ref b17), .unset, .unset, .unset, .unset, .unset, .unset, .unset, .unset] [(.int p4), (.int p1), (.ref b28), (.ref b28)])) rfl (by rw [hml]; rfl) (Steps.refl _) (a := b28) (argsL := [(.int p1), (.int p4)]) (rest := [(.ref b28)]) (lenOf own_pd945365693 rfl) rfl (by show 2 * 0 + _ ≤ _; exact Nat.le_of_eq rfl) (hb hby at_39) (fun _ _ => ⟨rfl, e28, (by decide : 4 + 0 ≤ room_1.cells), (by decide : 8 + 0 ≤ room_1.slots)⟩)
  dsimp only [Pt.U, Pt.locs, Pt.cells, Pt.slots] at X31 l31 y31 z31 st31 hQ31
  subst l31 y31 z31
  obtain ⟨hh31, eh031⟩ : ∃ z, T31.heap = z := ⟨_, rfl⟩
  rw [eh031] at hQ31
  obtain ⟨rfl, Nq31, Kq31, P31_0, P31_1⟩ := hQ31
  have N31 := Fr.app N20 Nq31
  refine own_tr st31 ?_
  have Zs35 : n0 ≤ hh31.size := Nat.le_trans Zs29 Kq31.1
  show own_Gl _ _ _ _ _ _ _ (T31.setTop (mkF m 42 #[.val (.int p1), .val (.int p2), .val (.int p3), .val (.int p4), .val (.ref b1), .val (.ref b8), .val (.ref b17), .unset, .unset, .unset, .unset, .unset, .unset, .unset, .unset] [(.ref b28)]))
  refine own_st (fun _ k => XS.astore X31.here hx rfl (hb hby at_42) rfl rfl (l' := #[.val (.int p1), .val (.int p2), .val (.int p3), .val (.int p4), .val (.ref b1), .val (.ref b8), .val (.ref b17), .val (.ref b28), .unset, .unset, .unset, .unset, .unset, .unset, .unset]) rfl k) ?_
  show own_Gl _ _ _ _ _ _ _ (T31.setTop (mkF m 44 #[.val (.int p1), .val (.int p2), .val (.int p3), .val (.int p4), .val (.ref b1), .val (.ref b8), .val (.ref b17), .val (.ref b28), .unset, .unset, .unset, .unset, .unset, .unset, .unset] []))
  refine own_st (fun _ k => XS.aload X31.here hx rfl (hb hby at_44) rfl rfl k) ?_
  show own_Gl _ _ _ _ _ _ _ (T31.setTop (mkF m 46 #[.val (.int p1), .val (.int p2), .val (.int p3), .val (.int p4), .val (.ref b1), .val (.ref b8), .val (.ref b17), .val (.ref b28), .unset, .unset, .unset, .unset, .unset, .unset, .unset] [(.ref b1)]))
  have f37 := ((((((P4_0.ext E8).keep Kq11 (ninS ne_b1_b8 nin0)).ext E17).keep Kq20 (ninS ne_b1_b17 nin0)).ext E28).keep Kq31 (ninS ne_b1_b28 nin0))
  have f38 := ((((((P4_1.ext E8).keep Kq11 (ninS ne_b1_b8 nin0)).ext E17).keep Kq20 (ninS ne_b1_b17 nin0)).ext E28).keep Kq31 (ninS ne_b1_b28 nin0))
  have f39 := (f32.keep Kq31)
  have f40 := (f33.keep Kq31)
  have f41 := (f34.keep Kq31)
  have f42 := (A28.keep Kq31)
  obtain ⟨cq36, kq36, q36a, q36b, q36c⟩ := isOf hZ eh031 f39
  obtain ⟨_, _, ⟨T36, L36, k36, n36⟩, -, X36, ⟨Lc36, hQ36, l36, y36, z36⟩, st36⟩ := X31.virtualBack hx (y := (⟨"com/example/ewig/ewig/LogRotation", "hashCode", "()I"⟩ : MethodName)) (z := (⟨"com/example/ewig/ewig/LogRotation", "hashCode", "()I"⟩ : MethodName)) hown (mvT hZ (hw _ (List.mem_of_getElem? (i := 13) rfl))) (mvT hZ (hw _ (List.mem_of_getElem? (i := 14) rfl))) (notFace_of_selects (args := #[]) (mvT hZ (hw _ (List.mem_of_getElem? (i := 16) rfl)))) (mvT hZ (hw _ (List.mem_of_getElem? (i := 16) rfl))) (mvT hZ (hw _ (List.mem_of_getElem? (i := 15) rfl))) (by decide) (backOf (W := 0) (own_hash l Z a0 hw [] b1 p1 p2 hh31 n0 Zs35 f37 f38) hZ (hw _ (List.mem_of_getElem? (i := 17) rfl)) (hw _ (List.mem_of_getElem? (i := 2) rfl)) (by decide) (by decide)) q36a q36c (g := (mkF m 46 #[.val (.int p1), .val (.int p2), .val (.int p3), .val (.int p4), .val (.ref b1), .val (.ref b8), .val (.ref b17), .val (.ref b28), .unset, .unset, .unset, .unset, .unset, .unset, .unset] [(.ref b1)])) rfl (by rw [hml]; rfl) (Steps.refl _) (argsL := []) (rest := []) (lenOf own_pd691884 rfl) rfl (by show 2 * 0 + _ ≤ _; exact Nat.le_of_eq rfl) (hb hby at_46) (fun _ _ => ⟨rfl, eh031, (by decide : 4 + 0 ≤ room_1.cells), (by decide : 8 + 0 ≤ room_1.slots)⟩)
  dsimp only [Pt.U, Pt.locs, Pt.cells, Pt.slots] at X36 l36 y36 z36 st36 hQ36
  subst l36 y36 z36
  obtain ⟨hh36, eh036⟩ : ∃ z, T36.heap = z := ⟨_, rfl⟩
  rw [eh036] at hQ36
  obtain ⟨rfl, Nq36, eh36⟩ := hQ36
  have N36 := Fr.app N31 Nq36
  refine own_tr st36 ?_
  have e36 : T36.heap = hh31 := eh036.trans eh36
  show own_Gl _ _ _ _ _ _ _ (T36.setTop (mkF m 49 #[.val (.int p1), .val (.int p2), .val (.int p3), .val (.int p4), .val (.ref b1), .val (.ref b8), .val (.ref b17), .val (.ref b28), .unset, .unset, .unset, .unset, .unset, .unset, .unset] [(.int (((31 : Int32) * p1) + p2))]))
  refine own_st (fun _ k => XS.istore X36.here hx rfl (hb hby at_49) rfl (l' := #[.val (.int p1), .val (.int p2), .val (.int p3), .val (.int p4), .val (.ref b1), .val (.ref b8), .val (.ref b17), .val (.ref b28), .val (.int (((31 : Int32) * p1) + p2)), .unset, .unset, .unset, .unset, .unset, .unset]) rfl k) ?_
  show own_Gl _ _ _ _ _ _ _ (T36.setTop (mkF m 51 #[.val (.int p1), .val (.int p2), .val (.int p3), .val (.int p4), .val (.ref b1), .val (.ref b8), .val (.ref b17), .val (.ref b28), .val (.int (((31 : Int32) * p1) + p2)), .unset, .unset, .unset, .unset, .unset, .unset] []))
  refine own_st (fun _ k => XS.aload X36.here hx rfl (hb hby at_51) rfl rfl k) ?_
  show own_Gl _ _ _ _ _ _ _ (T36.setTop (mkF m 53 #[.val (.int p1), .val (.int p2), .val (.int p3), .val (.int p4), .val (.ref b1), .val (.ref b8), .val (.ref b17), .val (.ref b28), .val (.int (((31 : Int32) * p1) + p2)), .unset, .unset, .unset, .unset, .unset, .unset] [(.ref b8)]))
  have f44 := ((((P11_0.ext E17).keep Kq20 (ninS ne_b8_b17 nin0)).ext E28).keep Kq31 (ninS ne_b8_b28 nin0))
  have f45 := ((((P11_1.ext E17).keep Kq20 (ninS ne_b8_b17 nin0)).ext E28).keep Kq31 (ninS ne_b8_b28 nin0))
  obtain ⟨cq43, kq43, q43a, q43b, q43c⟩ := isOf hZ e36 f40
  obtain ⟨_, _, ⟨T43, L43, k43, n43⟩, -, X43, ⟨Lc43, hQ43, l43, y43, z43⟩, st43⟩ := X36.virtualBack hx (y := (⟨"com/example/ewig/ewig/LogRotation", "hashCode", "()I"⟩ : MethodName)) (z := (⟨"com/example/ewig/ewig/LogRotation", "hashCode", "()I"⟩ : MethodName)) hown (mvT hZ (hw _ (List.mem_of_getElem? (i := 13) rfl))) (mvT hZ (hw _ (List.mem_of_getElem? (i := 14) rfl))) (notFace_of_selects (args := #[]) (mvT hZ (hw _ (List.mem_of_getElem? (i := 16) rfl)))) (mvT hZ (hw _ (List.mem_of_getElem? (i := 16) rfl))) (mvT hZ (hw _ (List.mem_of_getElem? (i := 15) rfl))) (by decide) (backOf (W := 0) (own_hash l Z a0 hw [] b8 p1 p2 hh31 n0 Zs35 f44 f45) hZ (hw _ (List.mem_of_getElem? (i := 17) rfl)) (hw _ (List.mem_of_getElem? (i := 2) rfl)) (by decide) (by decide)) q43a q43c (g := (mkF m 53 #[.val (.int p1), .val (.int p2), .val (.int p3), .val (.int p4), .val (.ref b1), .val (.ref b8), .val (.ref b17), .val (.ref b28), .val (.int (((31 : Int32) * p1) + p2)), .unset, .unset, .unset, .unset, .unset, .unset] [(.ref b8)])) rfl (by rw [hml]; rfl) (Steps.refl _) (argsL := []) (rest := []) (lenOf own_pd691884 rfl) rfl (by show 2 * 0 + _ ≤ _; exact Nat.le_of_eq rfl) (hb hby at_53) (fun _ _ => ⟨rfl, e36, (by decide : 4 + 0 ≤ room_1.cells), (by decide : 8 + 0 ≤ room_1.slots)⟩)
  dsimp only [Pt.U, Pt.locs, Pt.cells, Pt.slots] at X43 l43 y43 z43 st43 hQ43
  subst l43 y43 z43
  obtain ⟨hh43, eh043⟩ : ∃ z, T43.heap = z := ⟨_, rfl⟩
  rw [eh043] at hQ43
  obtain ⟨rfl, Nq43, eh43⟩ := hQ43
  have N43 := Fr.app N36 Nq43
  refine own_tr st43 ?_
  have e43 : T43.heap = hh31 := eh043.trans eh43
  show own_Gl _ _ _ _ _ _ _ (T43.setTop (mkF m 56 #[.val (.int p1), .val (.int p2), .val (.int p3), .val (.int p4), .val (.ref b1), .val (.ref b8), .val (.ref b17), .val (.ref b28), .val (.int (((31 : Int32) * p1) + p2)), .unset, .unset, .unset, .unset, .unset, .unset] [(.int (((31 : Int32) * p1) + p2))]))
  refine own_st (fun _ k => XS.istore X43.here hx rfl (hb hby at_56) rfl (l' := #[.val (.int p1), .val (.int p2), .val (.int p3), .val (.int p4), .val (.ref b1), .val (.ref b8), .val (.ref b17), .val (.ref b28), .val (.int (((31 : Int32) * p1) + p2)), .val (.int (((31 : Int32) * p1) + p2)), .unset, .unset, .unset, .unset, .unset]) rfl k) ?_
  show own_Gl _ _ _ _ _ _ _ (T43.setTop (mkF m 58 #[.val (.int p1), .val (.int p2), .val (.int p3), .val (.int p4), .val (.ref b1), .val (.ref b8), .val (.ref b17), .val (.ref b28), .val (.int (((31 : Int32) * p1) + p2)), .val (.int (((31 : Int32) * p1) + p2)), .unset, .unset, .unset, .unset, .unset] []))
  refine own_st (fun _ k => XS.aload X43.here hx rfl (hb hby at_58) rfl rfl k) ?_
  show own_Gl _ _ _ _ _ _ _ (T43.setTop (mkF m 60 #[.val (.int p1), .val (.int p2), .val (.int p3), .val (.int p4), .val (.ref b1), .val (.ref b8), .val (.ref b17), .val (.ref b28), .val (.int (((31 : Int32) * p1) + p2)), .val (.int (((31 : Int32) * p1) + p2)), .unset, .unset, .unset, .unset, .unset] [(.ref b17)]))
  have f47 := ((P20_0.ext E28).keep Kq31 (ninS ne_b17_b28 nin0))
  have f48 := ((P20_1.ext E28).keep Kq31 (ninS ne_b17_b28 nin0))
  obtain ⟨cq46, kq46, q46a, q46b, q46c⟩ := isOf hZ e43 f41
  obtain ⟨_, _, ⟨T46, L46, k46, n46⟩, -, X46, ⟨Lc46, hQ46, l46, y46, z46⟩, st46⟩ := X43.virtualBack hx (y := (⟨"com/example/ewig/ewig/LogRotation", "hashCode", "()I"⟩ : MethodName)) (z := (⟨"com/example/ewig/ewig/LogRotation", "hashCode", "()I"⟩ : MethodName)) hown (mvT hZ (hw _ (List.mem_of_getElem? (i := 13) rfl))) (mvT hZ (hw _ (List.mem_of_getElem? (i := 14) rfl))) (notFace_of_selects (args := #[]) (mvT hZ (hw _ (List.mem_of_getElem? (i := 16) rfl)))) (mvT hZ (hw _ (List.mem_of_getElem? (i := 16) rfl))) (mvT hZ (hw _ (List.mem_of_getElem? (i := 15) rfl))) (by decide) (backOf (W := 0) (own_hash l Z a0 hw [] b17 p3 p2 hh31 n0 Zs35 f47 f48) hZ (hw _ (List.mem_of_getElem? (i := 17) rfl)) (hw _ (List.mem_of_getElem? (i := 2) rfl)) (by decide) (by decide)) q46a q46c (g := (mkF m 60 #[.val (.int p1), .val (.int p2), .val (.int p3), .val (.int p4), .val (.ref b1), .val (.ref b8), .val (.ref b17), .val (.ref b28), .val (.int (((31 : Int32) * p1) + p2)), .val (.int (((31 : Int32) * p1) + p2)), .unset, .unset, .unset, .unset, .unset] [(.ref b17)])) rfl (by rw [hml]; rfl) (Steps.refl _) (argsL := []) (rest := []) (lenOf own_pd691884 rfl) rfl (by show 2 * 0 + _ ≤ _; exact Nat.le_of_eq rfl) (hb hby at_60) (fun _ _ => ⟨rfl, e43, (by decide : 4 + 0 ≤ room_1.cells), (by decide : 8 + 0 ≤ room_1.slots)⟩)
  dsimp only [Pt.U, Pt.locs, Pt.cells, Pt.slots] at X46 l46 y46 z46 st46 hQ46
  subst l46 y46 z46
  obtain ⟨hh46, eh046⟩ : ∃ z, T46.heap = z := ⟨_, rfl⟩
  rw [eh046] at hQ46
  obtain ⟨rfl, Nq46, eh46⟩ := hQ46
  have N46 := Fr.app N43 Nq46
  refine own_tr st46 ?_
  have e46 : T46.heap = hh31 := eh046.trans eh46
  show own_Gl _ _ _ _ _ _ _ (T46.setTop (mkF m 63 #[.val (.int p1), .val (.int p2), .val (.int p3), .val (.int p4), .val (.ref b1), .val (.ref b8), .val (.ref b17), .val (.ref b28), .val (.int (((31 : Int32) * p1) + p2)), .val (.int (((31 : Int32) * p1) + p2)), .unset, .unset, .unset, .unset, .unset] [(.int (((31 : Int32) * p3) + p2))]))
  refine own_st (fun _ k => XS.istore X46.here hx rfl (hb hby at_63) rfl (l' := #[.val (.int p1), .val (.int p2), .val (.int p3), .val (.int p4), .val (.ref b1), .val (.ref b8), .val (.ref b17), .val (.ref b28), .val (.int (((31 : Int32) * p1) + p2)), .val (.int (((31 : Int32) * p1) + p2)), .val (.int (((31 : Int32) * p3) + p2)), .unset, .unset, .unset, .unset]) rfl k) ?_
  show own_Gl _ _ _ _ _ _ _ (T46.setTop (mkF m 65 #[.val (.int p1), .val (.int p2), .val (.int p3), .val (.int p4), .val (.ref b1), .val (.ref b8), .val (.ref b17), .val (.ref b28), .val (.int (((31 : Int32) * p1) + p2)), .val (.int (((31 : Int32) * p1) + p2)), .val (.int (((31 : Int32) * p3) + p2)), .unset, .unset, .unset, .unset] []))
  refine own_st (fun _ k => XS.aload X46.here hx rfl (hb hby at_65) rfl rfl k) ?_
  show own_Gl _ _ _ _ _ _ _ (T46.setTop (mkF m 67 #[.val (.int p1), .val (.int p2), .val (.int p3), .val (.int p4), .val (.ref b1), .val (.ref b8), .val (.ref b17), .val (.ref b28), .val (.int (((31 : Int32) * p1) + p2)), .val (.int (((31 : Int32) * p1) + p2)), .val (.int (((31 : Int32) * p3) + p2)), .unset, .unset, .unset, .unset] [(.ref b28)]))
  obtain ⟨cq49, kq49, q49a, q49b, q49c⟩ := isOf hZ e46 f42
  obtain ⟨_, _, ⟨T49, L49, k49, n49⟩, -, X49, ⟨Lc49, hQ49, l49, y49, z49⟩, st49⟩ := X46.virtualBack hx (y := (⟨"com/example/ewig/ewig/LogRotation", "hashCode", "()I"⟩ : MethodName)) (z := (⟨"com/example/ewig/ewig/LogRotation", "hashCode", "()I"⟩ : MethodName)) hown (mvT hZ (hw _ (List.mem_of_getElem? (i := 13) rfl))) (mvT hZ (hw _ (List.mem_of_getElem? (i := 14) rfl))) (notFace_of_selects (args := #[]) (mvT hZ (hw _ (List.mem_of_getElem? (i := 16) rfl)))) (mvT hZ (hw _ (List.mem_of_getElem? (i := 16) rfl))) (mvT hZ (hw _ (List.mem_of_getElem? (i := 15) rfl))) (by decide) (backOf (W := 0) (own_hash l Z a0 hw [] b28 p1 p4 hh31 n0 Zs35 P31_0 P31_1) hZ (hw _ (List.mem_of_getElem? (i := 17) rfl)) (hw _ (List.mem_of_getElem? (i := 2) rfl)) (by decide) (by decide)) q49a q49c (g := (mkF m 67 #[.val (.int p1), .val (.int p2), .val (.int p3), .val (.int p4), .val (.ref b1), .val (.ref b8), .val (.ref b17), .val (.ref b28), .val (.int (((31 : Int32) * p1) + p2)), .val (.int (((31 : Int32) * p1) + p2)), .val (.int (((31 : Int32) * p3) + p2)), .unset, .unset, .unset, .unset] [(.ref b28)])) rfl (by rw [hml]; rfl) (Steps.refl _) (argsL := []) (rest := []) (lenOf own_pd691884 rfl) rfl (by show 2 * 0 + _ ≤ _; exact Nat.le_of_eq rfl) (hb hby at_67) (fun _ _ => ⟨rfl, e46, (by decide : 4 + 0 ≤ room_1.cells), (by decide : 8 + 0 ≤ room_1.slots)⟩)
  dsimp only [Pt.U, Pt.locs, Pt.cells, Pt.slots] at X49 l49 y49 z49 st49 hQ49
  subst l49 y49 z49
  obtain ⟨hh49, eh049⟩ : ∃ z, T49.heap = z := ⟨_, rfl⟩
  rw [eh049] at hQ49
  obtain ⟨rfl, Nq49, eh49⟩ := hQ49
  have N49 := Fr.app N46 Nq49
  refine own_tr st49 ?_
  have e49 : T49.heap = hh31 := eh049.trans eh49
  show own_Gl _ _ _ _ _ _ _ (T49.setTop (mkF m 70 #[.val (.int p1), .val (.int p2), .val (.int p3), .val (.int p4), .val (.ref b1), .val (.ref b8), .val (.ref b17), .val (.ref b28), .val (.int (((31 : Int32) * p1) + p2)), .val (.int (((31 : Int32) * p1) + p2)), .val (.int (((31 : Int32) * p3) + p2)), .unset, .unset, .unset, .unset] [(.int (((31 : Int32) * p1) + p4))]))
  refine own_st (fun _ k => XS.istore X49.here hx rfl (hb hby at_70) rfl (l' := #[.val (.int p1), .val (.int p2), .val (.int p3), .val (.int p4), .val (.ref b1), .val (.ref b8), .val (.ref b17), .val (.ref b28), .val (.int (((31 : Int32) * p1) + p2)), .val (.int (((31 : Int32) * p1) + p2)), .val (.int (((31 : Int32) * p3) + p2)), .val (.int (((31 : Int32) * p1) + p4)), .unset, .unset, .unset]) rfl k) ?_
  show own_Gl _ _ _ _ _ _ _ (T49.setTop (mkF m 72 #[.val (.int p1), .val (.int p2), .val (.int p3), .val (.int p4), .val (.ref b1), .val (.ref b8), .val (.ref b17), .val (.ref b28), .val (.int (((31 : Int32) * p1) + p2)), .val (.int (((31 : Int32) * p1) + p2)), .val (.int (((31 : Int32) * p3) + p2)), .val (.int (((31 : Int32) * p1) + p4)), .unset, .unset, .unset] []))
  refine own_st (fun _ k => XS.iload X49.here hx rfl (hb hby at_72) rfl k) ?_
  show own_Gl _ _ _ _ _ _ _ (T49.setTop (mkF m 74 #[.val (.int p1), .val (.int p2), .val (.int p3), .val (.int p4), .val (.ref b1), .val (.ref b8), .val (.ref b17), .val (.ref b28), .val (.int (((31 : Int32) * p1) + p2)), .val (.int (((31 : Int32) * p1) + p2)), .val (.int (((31 : Int32) * p3) + p2)), .val (.int (((31 : Int32) * p1) + p4)), .unset, .unset, .unset] [(.int (((31 : Int32) * p1) + p2))]))
  refine own_st (fun _ k => XS.iload X49.here hx rfl (hb hby at_74) rfl k) ?_
  show own_Gl _ _ _ _ _ _ _ (T49.setTop (mkF m 76 #[.val (.int p1), .val (.int p2), .val (.int p3), .val (.int p4), .val (.ref b1), .val (.ref b8), .val (.ref b17), .val (.ref b28), .val (.int (((31 : Int32) * p1) + p2)), .val (.int (((31 : Int32) * p1) + p2)), .val (.int (((31 : Int32) * p3) + p2)), .val (.int (((31 : Int32) * p1) + p4)), .unset, .unset, .unset] [(.int (((31 : Int32) * p1) + p2)), (.int (((31 : Int32) * p1) + p2))]))
  have hd50 : (((31 : Int32) * p1) + p2) = (((31 : Int32) * p1) + p2) := (rfl)
  refine own_st (fun _ k => XS.icmpNo X49.here hx rfl (hb hby at_76) rfl (teq hd50).2 k) ?_
  show own_Gl _ _ _ _ _ _ _ (T49.setTop (mkF m 79 #[.val (.int p1), .val (.int p2), .val (.int p3), .val (.int p4), .val (.ref b1), .val (.ref b8), .val (.ref b17), .val (.ref b28), .val (.int (((31 : Int32) * p1) + p2)), .val (.int (((31 : Int32) * p1) + p2)), .val (.int (((31 : Int32) * p3) + p2)), .val (.int (((31 : Int32) * p1) + p4)), .unset, .unset, .unset] []))
  refine own_st (fun _ k => XS.iconst X49.here hx rfl (hb hby at_79) k) ?_
  show own_Gl _ _ _ _ _ _ _ (T49.setTop (mkF m 80 #[.val (.int p1), .val (.int p2), .val (.int p3), .val (.int p4), .val (.ref b1), .val (.ref b8), .val (.ref b17), .val (.ref b28), .val (.int (((31 : Int32) * p1) + p2)), .val (.int (((31 : Int32) * p1) + p2)), .val (.int (((31 : Int32) * p3) + p2)), .val (.int (((31 : Int32) * p1) + p4)), .unset, .unset, .unset] [(.int (1 : Int32))]))
  refine own_st (fun _ k => XS.goto X49.here hx rfl (pc0 := 80) (pc' := 84) rfl (hb hby at_80) (by decide) (by decide) k) ?_
  show own_Gl _ _ _ _ _ _ _ (T49.setTop (mkF m 84 #[.val (.int p1), .val (.int p2), .val (.int p3), .val (.int p4), .val (.ref b1), .val (.ref b8), .val (.ref b17), .val (.ref b28), .val (.int (((31 : Int32) * p1) + p2)), .val (.int (((31 : Int32) * p1) + p2)), .val (.int (((31 : Int32) * p3) + p2)), .val (.int (((31 : Int32) * p1) + p4)), .unset, .unset, .unset] [(.int (1 : Int32))]))
  refine own_st (fun _ k => XS.istore X49.here hx rfl (hb hby at_84) rfl (l' := #[.val (.int p1), .val (.int p2), .val (.int p3), .val (.int p4), .val (.ref b1), .val (.ref b8), .val (.ref b17), .val (.ref b28), .val (.int (((31 : Int32) * p1) + p2)), .val (.int (((31 : Int32) * p1) + p2)), .val (.int (((31 : Int32) * p3) + p2)), .val (.int (((31 : Int32) * p1) + p4)), .val (.int (1 : Int32)), .unset, .unset]) rfl k) ?_
  show own_Gl _ _ _ _ _ _ _ (T49.setTop (mkF m 86 #[.val (.int p1), .val (.int p2), .val (.int p3), .val (.int p4), .val (.ref b1), .val (.ref b8), .val (.ref b17), .val (.ref b28), .val (.int (((31 : Int32) * p1) + p2)), .val (.int (((31 : Int32) * p1) + p2)), .val (.int (((31 : Int32) * p3) + p2)), .val (.int (((31 : Int32) * p1) + p4)), .val (.int (1 : Int32)), .unset, .unset] []))
  refine own_st (fun _ k => XS.iload X49.here hx rfl (hb hby at_86) rfl k) ?_
  show own_Gl _ _ _ _ _ _ _ (T49.setTop (mkF m 88 #[.val (.int p1), .val (.int p2), .val (.int p3), .val (.int p4), .val (.ref b1), .val (.ref b8), .val (.ref b17), .val (.ref b28), .val (.int (((31 : Int32) * p1) + p2)), .val (.int (((31 : Int32) * p1) + p2)), .val (.int (((31 : Int32) * p3) + p2)), .val (.int (((31 : Int32) * p1) + p4)), .val (.int (1 : Int32)), .unset, .unset] [(.int (((31 : Int32) * p1) + p2))]))
  refine own_st (fun _ k => XS.iload X49.here hx rfl (hb hby at_88) rfl k) ?_
  show own_Gl _ _ _ _ _ _ _ (T49.setTop (mkF m 90 #[.val (.int p1), .val (.int p2), .val (.int p3), .val (.int p4), .val (.ref b1), .val (.ref b8), .val (.ref b17), .val (.ref b28), .val (.int (((31 : Int32) * p1) + p2)), .val (.int (((31 : Int32) * p1) + p2)), .val (.int (((31 : Int32) * p3) + p2)), .val (.int (((31 : Int32) * p1) + p4)), .val (.int (1 : Int32)), .unset, .unset] [(.int (((31 : Int32) * p3) + p2)), (.int (((31 : Int32) * p1) + p2))]))
  by_cases hc90 : (((31 : Int32) * p1) + p2) = (((31 : Int32) * p3) + p2)
  · refine own_st (fun _ k => XS.icmpNo X49.here hx rfl (hb hby at_90) rfl (teq hc90).2 k) ?_
    show own_Gl _ _ _ _ _ _ _ (T49.setTop (mkF m 93 #[.val (.int p1), .val (.int p2), .val (.int p3), .val (.int p4), .val (.ref b1), .val (.ref b8), .val (.ref b17), .val (.ref b28), .val (.int (((31 : Int32) * p1) + p2)), .val (.int (((31 : Int32) * p1) + p2)), .val (.int (((31 : Int32) * p3) + p2)), .val (.int (((31 : Int32) * p1) + p4)), .val (.int (1 : Int32)), .unset, .unset] []))
    refine own_st (fun _ k => XS.iconst X49.here hx rfl (hb hby at_93) k) ?_
    show own_Gl _ _ _ _ _ _ _ (T49.setTop (mkF m 94 #[.val (.int p1), .val (.int p2), .val (.int p3), .val (.int p4), .val (.ref b1), .val (.ref b8), .val (.ref b17), .val (.ref b28), .val (.int (((31 : Int32) * p1) + p2)), .val (.int (((31 : Int32) * p1) + p2)), .val (.int (((31 : Int32) * p3) + p2)), .val (.int (((31 : Int32) * p1) + p4)), .val (.int (1 : Int32)), .unset, .unset] [(.int (1 : Int32))]))
    refine own_st (fun _ k => XS.goto X49.here hx rfl (pc0 := 94) (pc' := 98) rfl (hb hby at_94) (by decide) (by decide) k) ?_
    show own_Gl _ _ _ _ _ _ _ (T49.setTop (mkF m 98 #[.val (.int p1), .val (.int p2), .val (.int p3), .val (.int p4), .val (.ref b1), .val (.ref b8), .val (.ref b17), .val (.ref b28), .val (.int (((31 : Int32) * p1) + p2)), .val (.int (((31 : Int32) * p1) + p2)), .val (.int (((31 : Int32) * p3) + p2)), .val (.int (((31 : Int32) * p1) + p4)), .val (.int (1 : Int32)), .unset, .unset] [(.int (1 : Int32))]))
    refine own_st (fun _ k => XS.iloadN X49.here hx rfl (hb hby at_98) rfl k) ?_
    show own_Gl _ _ _ _ _ _ _ (T49.setTop (mkF m 99 #[.val (.int p1), .val (.int p2), .val (.int p3), .val (.int p4), .val (.ref b1), .val (.ref b8), .val (.ref b17), .val (.ref b28), .val (.int (((31 : Int32) * p1) + p2)), .val (.int (((31 : Int32) * p1) + p2)), .val (.int (((31 : Int32) * p3) + p2)), .val (.int (((31 : Int32) * p1) + p4)), .val (.int (1 : Int32)), .unset, .unset] [(.int p1), (.int (1 : Int32))]))
    refine own_st (fun _ k => XS.iloadN X49.here hx rfl (hb hby at_99) rfl k) ?_
    show own_Gl _ _ _ _ _ _ _ (T49.setTop (mkF m 100 #[.val (.int p1), .val (.int p2), .val (.int p3), .val (.int p4), .val (.ref b1), .val (.ref b8), .val (.ref b17), .val (.ref b28), .val (.int (((31 : Int32) * p1) + p2)), .val (.int (((31 : Int32) * p1) + p2)), .val (.int (((31 : Int32) * p3) + p2)), .val (.int (((31 : Int32) * p1) + p4)), .val (.int (1 : Int32)), .unset, .unset] [(.int p3), (.int p1), (.int (1 : Int32))]))
    have hd51 : p1 = p3 := (own_h1 _ _ _).mp hc90
    refine own_st (fun _ k => XS.icmpNo X49.here hx rfl (hb hby at_100) rfl (teq hd51).2 k) ?_
    show own_Gl _ _ _ _ _ _ _ (T49.setTop (mkF m 103 #[.val (.int p1), .val (.int p2), .val (.int p3), .val (.int p4), .val (.ref b1), .val (.ref b8), .val (.ref b17), .val (.ref b28), .val (.int (((31 : Int32) * p1) + p2)), .val (.int (((31 : Int32) * p1) + p2)), .val (.int (((31 : Int32) * p3) + p2)), .val (.int (((31 : Int32) * p1) + p4)), .val (.int (1 : Int32)), .unset, .unset] [(.int (1 : Int32))]))
    refine own_st (fun _ k => XS.iconst X49.here hx rfl (hb hby at_103) k) ?_
    show own_Gl _ _ _ _ _ _ _ (T49.setTop (mkF m 104 #[.val (.int p1), .val (.int p2), .val (.int p3), .val (.int p4), .val (.ref b1), .val (.ref b8), .val (.ref b17), .val (.ref b28), .val (.int (((31 : Int32) * p1) + p2)), .val (.int (((31 : Int32) * p1) + p2)), .val (.int (((31 : Int32) * p3) + p2)), .val (.int (((31 : Int32) * p1) + p4)), .val (.int (1 : Int32)), .unset, .unset] [(.int (1 : Int32)), (.int (1 : Int32))]))
    refine own_st (fun _ k => XS.goto X49.here hx rfl (pc0 := 104) (pc' := 108) rfl (hb hby at_104) (by decide) (by decide) k) ?_
    show own_Gl _ _ _ _ _ _ _ (T49.setTop (mkF m 108 #[.val (.int p1), .val (.int p2), .val (.int p3), .val (.int p4), .val (.ref b1), .val (.ref b8), .val (.ref b17), .val (.ref b28), .val (.int (((31 : Int32) * p1) + p2)), .val (.int (((31 : Int32) * p1) + p2)), .val (.int (((31 : Int32) * p3) + p2)), .val (.int (((31 : Int32) * p1) + p4)), .val (.int (1 : Int32)), .unset, .unset] [(.int (1 : Int32)), (.int (1 : Int32))]))
    have hd52 : (1 : Int32) = (1 : Int32) := (by decide)
    refine own_st (fun _ k => XS.icmpNo X49.here hx rfl (hb hby at_108) rfl (teq hd52).2 k) ?_
    show own_Gl _ _ _ _ _ _ _ (T49.setTop (mkF m 111 #[.val (.int p1), .val (.int p2), .val (.int p3), .val (.int p4), .val (.ref b1), .val (.ref b8), .val (.ref b17), .val (.ref b28), .val (.int (((31 : Int32) * p1) + p2)), .val (.int (((31 : Int32) * p1) + p2)), .val (.int (((31 : Int32) * p3) + p2)), .val (.int (((31 : Int32) * p1) + p4)), .val (.int (1 : Int32)), .unset, .unset] []))
    refine own_st (fun _ k => XS.iconst X49.here hx rfl (hb hby at_111) k) ?_
    show own_Gl _ _ _ _ _ _ _ (T49.setTop (mkF m 112 #[.val (.int p1), .val (.int p2), .val (.int p3), .val (.int p4), .val (.ref b1), .val (.ref b8), .val (.ref b17), .val (.ref b28), .val (.int (((31 : Int32) * p1) + p2)), .val (.int (((31 : Int32) * p1) + p2)), .val (.int (((31 : Int32) * p3) + p2)), .val (.int (((31 : Int32) * p1) + p4)), .val (.int (1 : Int32)), .unset, .unset] [(.int (1 : Int32))]))
    refine own_st (fun _ k => XS.goto X49.here hx rfl (pc0 := 112) (pc' := 116) rfl (hb hby at_112) (by decide) (by decide) k) ?_
    show own_Gl _ _ _ _ _ _ _ (T49.setTop (mkF m 116 #[.val (.int p1), .val (.int p2), .val (.int p3), .val (.int p4), .val (.ref b1), .val (.ref b8), .val (.ref b17), .val (.ref b28), .val (.int (((31 : Int32) * p1) + p2)), .val (.int (((31 : Int32) * p1) + p2)), .val (.int (((31 : Int32) * p3) + p2)), .val (.int (((31 : Int32) * p1) + p4)), .val (.int (1 : Int32)), .unset, .unset] [(.int (1 : Int32))]))
    refine own_st (fun _ k => XS.istore X49.here hx rfl (hb hby at_116) rfl (l' := #[.val (.int p1), .val (.int p2), .val (.int p3), .val (.int p4), .val (.ref b1), .val (.ref b8), .val (.ref b17), .val (.ref b28), .val (.int (((31 : Int32) * p1) + p2)), .val (.int (((31 : Int32) * p1) + p2)), .val (.int (((31 : Int32) * p3) + p2)), .val (.int (((31 : Int32) * p1) + p4)), .val (.int (1 : Int32)), .val (.int (1 : Int32)), .unset]) rfl k) ?_
    show own_Gl _ _ _ _ _ _ _ (T49.setTop (mkF m 118 #[.val (.int p1), .val (.int p2), .val (.int p3), .val (.int p4), .val (.ref b1), .val (.ref b8), .val (.ref b17), .val (.ref b28), .val (.int (((31 : Int32) * p1) + p2)), .val (.int (((31 : Int32) * p1) + p2)), .val (.int (((31 : Int32) * p3) + p2)), .val (.int (((31 : Int32) * p1) + p4)), .val (.int (1 : Int32)), .val (.int (1 : Int32)), .unset] []))
    refine own_st (fun _ k => XS.iload X49.here hx rfl (hb hby at_118) rfl k) ?_
    show own_Gl _ _ _ _ _ _ _ (T49.setTop (mkF m 120 #[.val (.int p1), .val (.int p2), .val (.int p3), .val (.int p4), .val (.ref b1), .val (.ref b8), .val (.ref b17), .val (.ref b28), .val (.int (((31 : Int32) * p1) + p2)), .val (.int (((31 : Int32) * p1) + p2)), .val (.int (((31 : Int32) * p3) + p2)), .val (.int (((31 : Int32) * p1) + p4)), .val (.int (1 : Int32)), .val (.int (1 : Int32)), .unset] [(.int (((31 : Int32) * p1) + p2))]))
    refine own_st (fun _ k => XS.iload X49.here hx rfl (hb hby at_120) rfl k) ?_
    show own_Gl _ _ _ _ _ _ _ (T49.setTop (mkF m 122 #[.val (.int p1), .val (.int p2), .val (.int p3), .val (.int p4), .val (.ref b1), .val (.ref b8), .val (.ref b17), .val (.ref b28), .val (.int (((31 : Int32) * p1) + p2)), .val (.int (((31 : Int32) * p1) + p2)), .val (.int (((31 : Int32) * p3) + p2)), .val (.int (((31 : Int32) * p1) + p4)), .val (.int (1 : Int32)), .val (.int (1 : Int32)), .unset] [(.int (((31 : Int32) * p1) + p4)), (.int (((31 : Int32) * p1) + p2))]))
    by_cases hc122 : (((31 : Int32) * p1) + p2) = (((31 : Int32) * p1) + p4)
    · refine own_st (fun _ k => XS.icmpNo X49.here hx rfl (hb hby at_122) rfl (teq hc122).2 k) ?_
      show own_Gl _ _ _ _ _ _ _ (T49.setTop (mkF m 125 #[.val (.int p1), .val (.int p2), .val (.int p3), .val (.int p4), .val (.ref b1), .val (.ref b8), .val (.ref b17), .val (.ref b28), .val (.int (((31 : Int32) * p1) + p2)), .val (.int (((31 : Int32) * p1) + p2)), .val (.int (((31 : Int32) * p3) + p2)), .val (.int (((31 : Int32) * p1) + p4)), .val (.int (1 : Int32)), .val (.int (1 : Int32)), .unset] []))
      refine own_st (fun _ k => XS.iconst X49.here hx rfl (hb hby at_125) k) ?_
      show own_Gl _ _ _ _ _ _ _ (T49.setTop (mkF m 126 #[.val (.int p1), .val (.int p2), .val (.int p3), .val (.int p4), .val (.ref b1), .val (.ref b8), .val (.ref b17), .val (.ref b28), .val (.int (((31 : Int32) * p1) + p2)), .val (.int (((31 : Int32) * p1) + p2)), .val (.int (((31 : Int32) * p3) + p2)), .val (.int (((31 : Int32) * p1) + p4)), .val (.int (1 : Int32)), .val (.int (1 : Int32)), .unset] [(.int (1 : Int32))]))
      refine own_st (fun _ k => XS.goto X49.here hx rfl (pc0 := 126) (pc' := 130) rfl (hb hby at_126) (by decide) (by decide) k) ?_
      show own_Gl _ _ _ _ _ _ _ (T49.setTop (mkF m 130 #[.val (.int p1), .val (.int p2), .val (.int p3), .val (.int p4), .val (.ref b1), .val (.ref b8), .val (.ref b17), .val (.ref b28), .val (.int (((31 : Int32) * p1) + p2)), .val (.int (((31 : Int32) * p1) + p2)), .val (.int (((31 : Int32) * p3) + p2)), .val (.int (((31 : Int32) * p1) + p4)), .val (.int (1 : Int32)), .val (.int (1 : Int32)), .unset] [(.int (1 : Int32))]))
      refine own_st (fun _ k => XS.iloadN X49.here hx rfl (hb hby at_130) rfl k) ?_
      show own_Gl _ _ _ _ _ _ _ (T49.setTop (mkF m 131 #[.val (.int p1), .val (.int p2), .val (.int p3), .val (.int p4), .val (.ref b1), .val (.ref b8), .val (.ref b17), .val (.ref b28), .val (.int (((31 : Int32) * p1) + p2)), .val (.int (((31 : Int32) * p1) + p2)), .val (.int (((31 : Int32) * p3) + p2)), .val (.int (((31 : Int32) * p1) + p4)), .val (.int (1 : Int32)), .val (.int (1 : Int32)), .unset] [(.int p2), (.int (1 : Int32))]))
      refine own_st (fun _ k => XS.iloadN X49.here hx rfl (hb hby at_131) rfl k) ?_
      show own_Gl _ _ _ _ _ _ _ (T49.setTop (mkF m 132 #[.val (.int p1), .val (.int p2), .val (.int p3), .val (.int p4), .val (.ref b1), .val (.ref b8), .val (.ref b17), .val (.ref b28), .val (.int (((31 : Int32) * p1) + p2)), .val (.int (((31 : Int32) * p1) + p2)), .val (.int (((31 : Int32) * p3) + p2)), .val (.int (((31 : Int32) * p1) + p4)), .val (.int (1 : Int32)), .val (.int (1 : Int32)), .unset] [(.int p4), (.int p2), (.int (1 : Int32))]))
      have hd53 : p2 = p4 := (own_h2 _ _ _).mp hc122
      refine own_st (fun _ k => XS.icmpNo X49.here hx rfl (hb hby at_132) rfl (teq hd53).2 k) ?_
      show own_Gl _ _ _ _ _ _ _ (T49.setTop (mkF m 135 #[.val (.int p1), .val (.int p2), .val (.int p3), .val (.int p4), .val (.ref b1), .val (.ref b8), .val (.ref b17), .val (.ref b28), .val (.int (((31 : Int32) * p1) + p2)), .val (.int (((31 : Int32) * p1) + p2)), .val (.int (((31 : Int32) * p3) + p2)), .val (.int (((31 : Int32) * p1) + p4)), .val (.int (1 : Int32)), .val (.int (1 : Int32)), .unset] [(.int (1 : Int32))]))
      refine own_st (fun _ k => XS.iconst X49.here hx rfl (hb hby at_135) k) ?_
      show own_Gl _ _ _ _ _ _ _ (T49.setTop (mkF m 136 #[.val (.int p1), .val (.int p2), .val (.int p3), .val (.int p4), .val (.ref b1), .val (.ref b8), .val (.ref b17), .val (.ref b28), .val (.int (((31 : Int32) * p1) + p2)), .val (.int (((31 : Int32) * p1) + p2)), .val (.int (((31 : Int32) * p3) + p2)), .val (.int (((31 : Int32) * p1) + p4)), .val (.int (1 : Int32)), .val (.int (1 : Int32)), .unset] [(.int (1 : Int32)), (.int (1 : Int32))]))
      refine own_st (fun _ k => XS.goto X49.here hx rfl (pc0 := 136) (pc' := 140) rfl (hb hby at_136) (by decide) (by decide) k) ?_
      show own_Gl _ _ _ _ _ _ _ (T49.setTop (mkF m 140 #[.val (.int p1), .val (.int p2), .val (.int p3), .val (.int p4), .val (.ref b1), .val (.ref b8), .val (.ref b17), .val (.ref b28), .val (.int (((31 : Int32) * p1) + p2)), .val (.int (((31 : Int32) * p1) + p2)), .val (.int (((31 : Int32) * p3) + p2)), .val (.int (((31 : Int32) * p1) + p4)), .val (.int (1 : Int32)), .val (.int (1 : Int32)), .unset] [(.int (1 : Int32)), (.int (1 : Int32))]))
      have hd54 : (1 : Int32) = (1 : Int32) := (by decide)
      refine own_st (fun _ k => XS.icmpNo X49.here hx rfl (hb hby at_140) rfl (teq hd54).2 k) ?_
      show own_Gl _ _ _ _ _ _ _ (T49.setTop (mkF m 143 #[.val (.int p1), .val (.int p2), .val (.int p3), .val (.int p4), .val (.ref b1), .val (.ref b8), .val (.ref b17), .val (.ref b28), .val (.int (((31 : Int32) * p1) + p2)), .val (.int (((31 : Int32) * p1) + p2)), .val (.int (((31 : Int32) * p3) + p2)), .val (.int (((31 : Int32) * p1) + p4)), .val (.int (1 : Int32)), .val (.int (1 : Int32)), .unset] []))
      refine own_st (fun _ k => XS.iconst X49.here hx rfl (hb hby at_143) k) ?_
      show own_Gl _ _ _ _ _ _ _ (T49.setTop (mkF m 144 #[.val (.int p1), .val (.int p2), .val (.int p3), .val (.int p4), .val (.ref b1), .val (.ref b8), .val (.ref b17), .val (.ref b28), .val (.int (((31 : Int32) * p1) + p2)), .val (.int (((31 : Int32) * p1) + p2)), .val (.int (((31 : Int32) * p3) + p2)), .val (.int (((31 : Int32) * p1) + p4)), .val (.int (1 : Int32)), .val (.int (1 : Int32)), .unset] [(.int (1 : Int32))]))
      refine own_st (fun _ k => XS.goto X49.here hx rfl (pc0 := 144) (pc' := 148) rfl (hb hby at_144) (by decide) (by decide) k) ?_
      show own_Gl _ _ _ _ _ _ _ (T49.setTop (mkF m 148 #[.val (.int p1), .val (.int p2), .val (.int p3), .val (.int p4), .val (.ref b1), .val (.ref b8), .val (.ref b17), .val (.ref b28), .val (.int (((31 : Int32) * p1) + p2)), .val (.int (((31 : Int32) * p1) + p2)), .val (.int (((31 : Int32) * p3) + p2)), .val (.int (((31 : Int32) * p1) + p4)), .val (.int (1 : Int32)), .val (.int (1 : Int32)), .unset] [(.int (1 : Int32))]))
      refine own_st (fun _ k => XS.istore X49.here hx rfl (hb hby at_148) rfl (l' := #[.val (.int p1), .val (.int p2), .val (.int p3), .val (.int p4), .val (.ref b1), .val (.ref b8), .val (.ref b17), .val (.ref b28), .val (.int (((31 : Int32) * p1) + p2)), .val (.int (((31 : Int32) * p1) + p2)), .val (.int (((31 : Int32) * p3) + p2)), .val (.int (((31 : Int32) * p1) + p4)), .val (.int (1 : Int32)), .val (.int (1 : Int32)), .val (.int (1 : Int32))]) rfl k) ?_
      show own_Gl _ _ _ _ _ _ _ (T49.setTop (mkF m 150 #[.val (.int p1), .val (.int p2), .val (.int p3), .val (.int p4), .val (.ref b1), .val (.ref b8), .val (.ref b17), .val (.ref b28), .val (.int (((31 : Int32) * p1) + p2)), .val (.int (((31 : Int32) * p1) + p2)), .val (.int (((31 : Int32) * p3) + p2)), .val (.int (((31 : Int32) * p1) + p4)), .val (.int (1 : Int32)), .val (.int (1 : Int32)), .val (.int (1 : Int32))] []))
      refine own_st (fun _ k => XS.iload X49.here hx rfl (hb hby at_150) rfl k) ?_
      show own_Gl _ _ _ _ _ _ _ (T49.setTop (mkF m 152 #[.val (.int p1), .val (.int p2), .val (.int p3), .val (.int p4), .val (.ref b1), .val (.ref b8), .val (.ref b17), .val (.ref b28), .val (.int (((31 : Int32) * p1) + p2)), .val (.int (((31 : Int32) * p1) + p2)), .val (.int (((31 : Int32) * p3) + p2)), .val (.int (((31 : Int32) * p1) + p4)), .val (.int (1 : Int32)), .val (.int (1 : Int32)), .val (.int (1 : Int32))] [(.int (1 : Int32))]))
      have hd55 : ¬ ((1 : Int32) = (0 : Int32)) := (by decide)
      refine own_st (fun _ k => XS.ifNo X49.here hx rfl (hb hby at_152) rfl ((if0 _ _).trans (feq hd55).1) k) ?_
      show own_Gl _ _ _ _ _ _ _ (T49.setTop (mkF m 155 #[.val (.int p1), .val (.int p2), .val (.int p3), .val (.int p4), .val (.ref b1), .val (.ref b8), .val (.ref b17), .val (.ref b28), .val (.int (((31 : Int32) * p1) + p2)), .val (.int (((31 : Int32) * p1) + p2)), .val (.int (((31 : Int32) * p3) + p2)), .val (.int (((31 : Int32) * p1) + p4)), .val (.int (1 : Int32)), .val (.int (1 : Int32)), .val (.int (1 : Int32))] []))
      refine own_st (fun _ k => XS.iload X49.here hx rfl (hb hby at_155) rfl k) ?_
      show own_Gl _ _ _ _ _ _ _ (T49.setTop (mkF m 157 #[.val (.int p1), .val (.int p2), .val (.int p3), .val (.int p4), .val (.ref b1), .val (.ref b8), .val (.ref b17), .val (.ref b28), .val (.int (((31 : Int32) * p1) + p2)), .val (.int (((31 : Int32) * p1) + p2)), .val (.int (((31 : Int32) * p3) + p2)), .val (.int (((31 : Int32) * p1) + p4)), .val (.int (1 : Int32)), .val (.int (1 : Int32)), .val (.int (1 : Int32))] [(.int (1 : Int32))]))
      have hd56 : ¬ ((1 : Int32) = (0 : Int32)) := (by decide)
      refine own_st (fun _ k => XS.ifNo X49.here hx rfl (hb hby at_157) rfl ((if0 _ _).trans (feq hd56).1) k) ?_
      show own_Gl _ _ _ _ _ _ _ (T49.setTop (mkF m 160 #[.val (.int p1), .val (.int p2), .val (.int p3), .val (.int p4), .val (.ref b1), .val (.ref b8), .val (.ref b17), .val (.ref b28), .val (.int (((31 : Int32) * p1) + p2)), .val (.int (((31 : Int32) * p1) + p2)), .val (.int (((31 : Int32) * p3) + p2)), .val (.int (((31 : Int32) * p1) + p4)), .val (.int (1 : Int32)), .val (.int (1 : Int32)), .val (.int (1 : Int32))] []))
      refine own_st (fun _ k => XS.iload X49.here hx rfl (hb hby at_160) rfl k) ?_
      show own_Gl _ _ _ _ _ _ _ (T49.setTop (mkF m 162 #[.val (.int p1), .val (.int p2), .val (.int p3), .val (.int p4), .val (.ref b1), .val (.ref b8), .val (.ref b17), .val (.ref b28), .val (.int (((31 : Int32) * p1) + p2)), .val (.int (((31 : Int32) * p1) + p2)), .val (.int (((31 : Int32) * p3) + p2)), .val (.int (((31 : Int32) * p1) + p4)), .val (.int (1 : Int32)), .val (.int (1 : Int32)), .val (.int (1 : Int32))] [(.int (1 : Int32))]))
      have hd57 : ¬ ((1 : Int32) = (0 : Int32)) := (by decide)
      refine own_st (fun _ k => XS.ifNo X49.here hx rfl (hb hby at_162) rfl ((if0 _ _).trans (feq hd57).1) k) ?_
      show own_Gl _ _ _ _ _ _ _ (T49.setTop (mkF m 165 #[.val (.int p1), .val (.int p2), .val (.int p3), .val (.int p4), .val (.ref b1), .val (.ref b8), .val (.ref b17), .val (.ref b28), .val (.int (((31 : Int32) * p1) + p2)), .val (.int (((31 : Int32) * p1) + p2)), .val (.int (((31 : Int32) * p3) + p2)), .val (.int (((31 : Int32) * p1) + p4)), .val (.int (1 : Int32)), .val (.int (1 : Int32)), .val (.int (1 : Int32))] []))
      refine own_st (fun _ k => XS.iconst X49.here hx rfl (hb hby at_165) k) ?_
      show own_Gl _ _ _ _ _ _ _ (T49.setTop (mkF m 166 #[.val (.int p1), .val (.int p2), .val (.int p3), .val (.int p4), .val (.ref b1), .val (.ref b8), .val (.ref b17), .val (.ref b28), .val (.int (((31 : Int32) * p1) + p2)), .val (.int (((31 : Int32) * p1) + p2)), .val (.int (((31 : Int32) * p3) + p2)), .val (.int (((31 : Int32) * p1) + p4)), .val (.int (1 : Int32)), .val (.int (1 : Int32)), .val (.int (1 : Int32))] [(.int (1 : Int32))]))
      refine own_st (fun _ k => XS.goto X49.here hx rfl (pc0 := 166) (pc' := 170) rfl (hb hby at_166) (by decide) (by decide) k) ?_
      show own_Gl _ _ _ _ _ _ _ (T49.setTop (mkF m 170 #[.val (.int p1), .val (.int p2), .val (.int p3), .val (.int p4), .val (.ref b1), .val (.ref b8), .val (.ref b17), .val (.ref b28), .val (.int (((31 : Int32) * p1) + p2)), .val (.int (((31 : Int32) * p1) + p2)), .val (.int (((31 : Int32) * p3) + p2)), .val (.int (((31 : Int32) * p1) + p4)), .val (.int (1 : Int32)), .val (.int (1 : Int32)), .val (.int (1 : Int32))] [(.int (1 : Int32))]))
      exact own_retN X49 hx hlk (t := .boolean) hret (by simp) (hb hby at_170) e49 ⟨rfl, N49⟩ (by decide) (by decide)
    · refine own_st (fun _ k => XS.icmpYes X49.here hx rfl (pc0 := 122) (pc' := 129) rfl (hb hby at_122) rfl (feq hc122).2 (by decide) (by decide) k) ?_
      show own_Gl _ _ _ _ _ _ _ (T49.setTop (mkF m 129 #[.val (.int p1), .val (.int p2), .val (.int p3), .val (.int p4), .val (.ref b1), .val (.ref b8), .val (.ref b17), .val (.ref b28), .val (.int (((31 : Int32) * p1) + p2)), .val (.int (((31 : Int32) * p1) + p2)), .val (.int (((31 : Int32) * p3) + p2)), .val (.int (((31 : Int32) * p1) + p4)), .val (.int (1 : Int32)), .val (.int (1 : Int32)), .unset] []))
      refine own_st (fun _ k => XS.iconst X49.here hx rfl (hb hby at_129) k) ?_
      show own_Gl _ _ _ _ _ _ _ (T49.setTop (mkF m 130 #[.val (.int p1), .val (.int p2), .val (.int p3), .val (.int p4), .val (.ref b1), .val (.ref b8), .val (.ref b17), .val (.ref b28), .val (.int (((31 : Int32) * p1) + p2)), .val (.int (((31 : Int32) * p1) + p2)), .val (.int (((31 : Int32) * p3) + p2)), .val (.int (((31 : Int32) * p1) + p4)), .val (.int (1 : Int32)), .val (.int (1 : Int32)), .unset] [(.int (0 : Int32))]))
      refine own_st (fun _ k => XS.iloadN X49.here hx rfl (hb hby at_130) rfl k) ?_
      show own_Gl _ _ _ _ _ _ _ (T49.setTop (mkF m 131 #[.val (.int p1), .val (.int p2), .val (.int p3), .val (.int p4), .val (.ref b1), .val (.ref b8), .val (.ref b17), .val (.ref b28), .val (.int (((31 : Int32) * p1) + p2)), .val (.int (((31 : Int32) * p1) + p2)), .val (.int (((31 : Int32) * p3) + p2)), .val (.int (((31 : Int32) * p1) + p4)), .val (.int (1 : Int32)), .val (.int (1 : Int32)), .unset] [(.int p2), (.int (0 : Int32))]))
      refine own_st (fun _ k => XS.iloadN X49.here hx rfl (hb hby at_131) rfl k) ?_
      show own_Gl _ _ _ _ _ _ _ (T49.setTop (mkF m 132 #[.val (.int p1), .val (.int p2), .val (.int p3), .val (.int p4), .val (.ref b1), .val (.ref b8), .val (.ref b17), .val (.ref b28), .val (.int (((31 : Int32) * p1) + p2)), .val (.int (((31 : Int32) * p1) + p2)), .val (.int (((31 : Int32) * p3) + p2)), .val (.int (((31 : Int32) * p1) + p4)), .val (.int (1 : Int32)), .val (.int (1 : Int32)), .unset] [(.int p4), (.int p2), (.int (0 : Int32))]))
      have hd58 : ¬ (p2 = p4) := mt (own_h2 _ _ _).mpr hc122
      refine own_st (fun _ k => XS.icmpYes X49.here hx rfl (pc0 := 132) (pc' := 139) rfl (hb hby at_132) rfl (feq hd58).2 (by decide) (by decide) k) ?_
      show own_Gl _ _ _ _ _ _ _ (T49.setTop (mkF m 139 #[.val (.int p1), .val (.int p2), .val (.int p3), .val (.int p4), .val (.ref b1), .val (.ref b8), .val (.ref b17), .val (.ref b28), .val (.int (((31 : Int32) * p1) + p2)), .val (.int (((31 : Int32) * p1) + p2)), .val (.int (((31 : Int32) * p3) + p2)), .val (.int (((31 : Int32) * p1) + p4)), .val (.int (1 : Int32)), .val (.int (1 : Int32)), .unset] [(.int (0 : Int32))]))
      refine own_st (fun _ k => XS.iconst X49.here hx rfl (hb hby at_139) k) ?_
      show own_Gl _ _ _ _ _ _ _ (T49.setTop (mkF m 140 #[.val (.int p1), .val (.int p2), .val (.int p3), .val (.int p4), .val (.ref b1), .val (.ref b8), .val (.ref b17), .val (.ref b28), .val (.int (((31 : Int32) * p1) + p2)), .val (.int (((31 : Int32) * p1) + p2)), .val (.int (((31 : Int32) * p3) + p2)), .val (.int (((31 : Int32) * p1) + p4)), .val (.int (1 : Int32)), .val (.int (1 : Int32)), .unset] [(.int (0 : Int32)), (.int (0 : Int32))]))
      have hd59 : (0 : Int32) = (0 : Int32) := (by decide)
      refine own_st (fun _ k => XS.icmpNo X49.here hx rfl (hb hby at_140) rfl (teq hd59).2 k) ?_
      show own_Gl _ _ _ _ _ _ _ (T49.setTop (mkF m 143 #[.val (.int p1), .val (.int p2), .val (.int p3), .val (.int p4), .val (.ref b1), .val (.ref b8), .val (.ref b17), .val (.ref b28), .val (.int (((31 : Int32) * p1) + p2)), .val (.int (((31 : Int32) * p1) + p2)), .val (.int (((31 : Int32) * p3) + p2)), .val (.int (((31 : Int32) * p1) + p4)), .val (.int (1 : Int32)), .val (.int (1 : Int32)), .unset] []))
      refine own_st (fun _ k => XS.iconst X49.here hx rfl (hb hby at_143) k) ?_
      show own_Gl _ _ _ _ _ _ _ (T49.setTop (mkF m 144 #[.val (.int p1), .val (.int p2), .val (.int p3), .val (.int p4), .val (.ref b1), .val (.ref b8), .val (.ref b17), .val (.ref b28), .val (.int (((31 : Int32) * p1) + p2)), .val (.int (((31 : Int32) * p1) + p2)), .val (.int (((31 : Int32) * p3) + p2)), .val (.int (((31 : Int32) * p1) + p4)), .val (.int (1 : Int32)), .val (.int (1 : Int32)), .unset] [(.int (1 : Int32))]))
      refine own_st (fun _ k => XS.goto X49.here hx rfl (pc0 := 144) (pc' := 148) rfl (hb hby at_144) (by decide) (by decide) k) ?_
      show own_Gl _ _ _ _ _ _ _ (T49.setTop (mkF m 148 #[.val (.int p1), .val (.int p2), .val (.int p3), .val (.int p4), .val (.ref b1), .val (.ref b8), .val (.ref b17), .val (.ref b28), .val (.int (((31 : Int32) * p1) + p2)), .val (.int (((31 : Int32) * p1) + p2)), .val (.int (((31 : Int32) * p3) + p2)), .val (.int (((31 : Int32) * p1) + p4)), .val (.int (1 : Int32)), .val (.int (1 : Int32)), .unset] [(.int (1 : Int32))]))
      refine own_st (fun _ k => XS.istore X49.here hx rfl (hb hby at_148) rfl (l' := #[.val (.int p1), .val (.int p2), .val (.int p3), .val (.int p4), .val (.ref b1), .val (.ref b8), .val (.ref b17), .val (.ref b28), .val (.int (((31 : Int32) * p1) + p2)), .val (.int (((31 : Int32) * p1) + p2)), .val (.int (((31 : Int32) * p3) + p2)), .val (.int (((31 : Int32) * p1) + p4)), .val (.int (1 : Int32)), .val (.int (1 : Int32)), .val (.int (1 : Int32))]) rfl k) ?_
      show own_Gl _ _ _ _ _ _ _ (T49.setTop (mkF m 150 #[.val (.int p1), .val (.int p2), .val (.int p3), .val (.int p4), .val (.ref b1), .val (.ref b8), .val (.ref b17), .val (.ref b28), .val (.int (((31 : Int32) * p1) + p2)), .val (.int (((31 : Int32) * p1) + p2)), .val (.int (((31 : Int32) * p3) + p2)), .val (.int (((31 : Int32) * p1) + p4)), .val (.int (1 : Int32)), .val (.int (1 : Int32)), .val (.int (1 : Int32))] []))
      refine own_st (fun _ k => XS.iload X49.here hx rfl (hb hby at_150) rfl k) ?_
      show own_Gl _ _ _ _ _ _ _ (T49.setTop (mkF m 152 #[.val (.int p1), .val (.int p2), .val (.int p3), .val (.int p4), .val (.ref b1), .val (.ref b8), .val (.ref b17), .val (.ref b28), .val (.int (((31 : Int32) * p1) + p2)), .val (.int (((31 : Int32) * p1) + p2)), .val (.int (((31 : Int32) * p3) + p2)), .val (.int (((31 : Int32) * p1) + p4)), .val (.int (1 : Int32)), .val (.int (1 : Int32)), .val (.int (1 : Int32))] [(.int (1 : Int32))]))
      have hd60 : ¬ ((1 : Int32) = (0 : Int32)) := (by decide)
      refine own_st (fun _ k => XS.ifNo X49.here hx rfl (hb hby at_152) rfl ((if0 _ _).trans (feq hd60).1) k) ?_
      show own_Gl _ _ _ _ _ _ _ (T49.setTop (mkF m 155 #[.val (.int p1), .val (.int p2), .val (.int p3), .val (.int p4), .val (.ref b1), .val (.ref b8), .val (.ref b17), .val (.ref b28), .val (.int (((31 : Int32) * p1) + p2)), .val (.int (((31 : Int32) * p1) + p2)), .val (.int (((31 : Int32) * p3) + p2)), .val (.int (((31 : Int32) * p1) + p4)), .val (.int (1 : Int32)), .val (.int (1 : Int32)), .val (.int (1 : Int32))] []))
      refine own_st (fun _ k => XS.iload X49.here hx rfl (hb hby at_155) rfl k) ?_
      show own_Gl _ _ _ _ _ _ _ (T49.setTop (mkF m 157 #[.val (.int p1), .val (.int p2), .val (.int p3), .val (.int p4), .val (.ref b1), .val (.ref b8), .val (.ref b17), .val (.ref b28), .val (.int (((31 : Int32) * p1) + p2)), .val (.int (((31 : Int32) * p1) + p2)), .val (.int (((31 : Int32) * p3) + p2)), .val (.int (((31 : Int32) * p1) + p4)), .val (.int (1 : Int32)), .val (.int (1 : Int32)), .val (.int (1 : Int32))] [(.int (1 : Int32))]))
      have hd61 : ¬ ((1 : Int32) = (0 : Int32)) := (by decide)
      refine own_st (fun _ k => XS.ifNo X49.here hx rfl (hb hby at_157) rfl ((if0 _ _).trans (feq hd61).1) k) ?_
      show own_Gl _ _ _ _ _ _ _ (T49.setTop (mkF m 160 #[.val (.int p1), .val (.int p2), .val (.int p3), .val (.int p4), .val (.ref b1), .val (.ref b8), .val (.ref b17), .val (.ref b28), .val (.int (((31 : Int32) * p1) + p2)), .val (.int (((31 : Int32) * p1) + p2)), .val (.int (((31 : Int32) * p3) + p2)), .val (.int (((31 : Int32) * p1) + p4)), .val (.int (1 : Int32)), .val (.int (1 : Int32)), .val (.int (1 : Int32))] []))
      refine own_st (fun _ k => XS.iload X49.here hx rfl (hb hby at_160) rfl k) ?_
      show own_Gl _ _ _ _ _ _ _ (T49.setTop (mkF m 162 #[.val (.int p1), .val (.int p2), .val (.int p3), .val (.int p4), .val (.ref b1), .val (.ref b8), .val (.ref b17), .val (.ref b28), .val (.int (((31 : Int32) * p1) + p2)), .val (.int (((31 : Int32) * p1) + p2)), .val (.int (((31 : Int32) * p3) + p2)), .val (.int (((31 : Int32) * p1) + p4)), .val (.int (1 : Int32)), .val (.int (1 : Int32)), .val (.int (1 : Int32))] [(.int (1 : Int32))]))
      have hd62 : ¬ ((1 : Int32) = (0 : Int32)) := (by decide)
      refine own_st (fun _ k => XS.ifNo X49.here hx rfl (hb hby at_162) rfl ((if0 _ _).trans (feq hd62).1) k) ?_
      show own_Gl _ _ _ _ _ _ _ (T49.setTop (mkF m 165 #[.val (.int p1), .val (.int p2), .val (.int p3), .val (.int p4), .val (.ref b1), .val (.ref b8), .val (.ref b17), .val (.ref b28), .val (.int (((31 : Int32) * p1) + p2)), .val (.int (((31 : Int32) * p1) + p2)), .val (.int (((31 : Int32) * p3) + p2)), .val (.int (((31 : Int32) * p1) + p4)), .val (.int (1 : Int32)), .val (.int (1 : Int32)), .val (.int (1 : Int32))] []))
      refine own_st (fun _ k => XS.iconst X49.here hx rfl (hb hby at_165) k) ?_
      show own_Gl _ _ _ _ _ _ _ (T49.setTop (mkF m 166 #[.val (.int p1), .val (.int p2), .val (.int p3), .val (.int p4), .val (.ref b1), .val (.ref b8), .val (.ref b17), .val (.ref b28), .val (.int (((31 : Int32) * p1) + p2)), .val (.int (((31 : Int32) * p1) + p2)), .val (.int (((31 : Int32) * p3) + p2)), .val (.int (((31 : Int32) * p1) + p4)), .val (.int (1 : Int32)), .val (.int (1 : Int32)), .val (.int (1 : Int32))] [(.int (1 : Int32))]))
      refine own_st (fun _ k => XS.goto X49.here hx rfl (pc0 := 166) (pc' := 170) rfl (hb hby at_166) (by decide) (by decide) k) ?_
      show own_Gl _ _ _ _ _ _ _ (T49.setTop (mkF m 170 #[.val (.int p1), .val (.int p2), .val (.int p3), .val (.int p4), .val (.ref b1), .val (.ref b8), .val (.ref b17), .val (.ref b28), .val (.int (((31 : Int32) * p1) + p2)), .val (.int (((31 : Int32) * p1) + p2)), .val (.int (((31 : Int32) * p3) + p2)), .val (.int (((31 : Int32) * p1) + p4)), .val (.int (1 : Int32)), .val (.int (1 : Int32)), .val (.int (1 : Int32))] [(.int (1 : Int32))]))
      exact own_retN X49 hx hlk (t := .boolean) hret (by simp) (hb hby at_170) e49 ⟨rfl, N49⟩ (by decide) (by decide)
  · refine own_st (fun _ k => XS.icmpYes X49.here hx rfl (pc0 := 90) (pc' := 97) rfl (hb hby at_90) rfl (feq hc90).2 (by decide) (by decide) k) ?_
    show own_Gl _ _ _ _ _ _ _ (T49.setTop (mkF m 97 #[.val (.int p1), .val (.int p2), .val (.int p3), .val (.int p4), .val (.ref b1), .val (.ref b8), .val (.ref b17), .val (.ref b28), .val (.int (((31 : Int32) * p1) + p2)), .val (.int (((31 : Int32) * p1) + p2)), .val (.int (((31 : Int32) * p3) + p2)), .val (.int (((31 : Int32) * p1) + p4)), .val (.int (1 : Int32)), .unset, .unset] []))
    refine own_st (fun _ k => XS.iconst X49.here hx rfl (hb hby at_97) k) ?_
    show own_Gl _ _ _ _ _ _ _ (T49.setTop (mkF m 98 #[.val (.int p1), .val (.int p2), .val (.int p3), .val (.int p4), .val (.ref b1), .val (.ref b8), .val (.ref b17), .val (.ref b28), .val (.int (((31 : Int32) * p1) + p2)), .val (.int (((31 : Int32) * p1) + p2)), .val (.int (((31 : Int32) * p3) + p2)), .val (.int (((31 : Int32) * p1) + p4)), .val (.int (1 : Int32)), .unset, .unset] [(.int (0 : Int32))]))
    refine own_st (fun _ k => XS.iloadN X49.here hx rfl (hb hby at_98) rfl k) ?_
    show own_Gl _ _ _ _ _ _ _ (T49.setTop (mkF m 99 #[.val (.int p1), .val (.int p2), .val (.int p3), .val (.int p4), .val (.ref b1), .val (.ref b8), .val (.ref b17), .val (.ref b28), .val (.int (((31 : Int32) * p1) + p2)), .val (.int (((31 : Int32) * p1) + p2)), .val (.int (((31 : Int32) * p3) + p2)), .val (.int (((31 : Int32) * p1) + p4)), .val (.int (1 : Int32)), .unset, .unset] [(.int p1), (.int (0 : Int32))]))
    refine own_st (fun _ k => XS.iloadN X49.here hx rfl (hb hby at_99) rfl k) ?_
    show own_Gl _ _ _ _ _ _ _ (T49.setTop (mkF m 100 #[.val (.int p1), .val (.int p2), .val (.int p3), .val (.int p4), .val (.ref b1), .val (.ref b8), .val (.ref b17), .val (.ref b28), .val (.int (((31 : Int32) * p1) + p2)), .val (.int (((31 : Int32) * p1) + p2)), .val (.int (((31 : Int32) * p3) + p2)), .val (.int (((31 : Int32) * p1) + p4)), .val (.int (1 : Int32)), .unset, .unset] [(.int p3), (.int p1), (.int (0 : Int32))]))
    have hd63 : ¬ (p1 = p3) := mt (own_h1 _ _ _).mpr hc90
    refine own_st (fun _ k => XS.icmpYes X49.here hx rfl (pc0 := 100) (pc' := 107) rfl (hb hby at_100) rfl (feq hd63).2 (by decide) (by decide) k) ?_
    show own_Gl _ _ _ _ _ _ _ (T49.setTop (mkF m 107 #[.val (.int p1), .val (.int p2), .val (.int p3), .val (.int p4), .val (.ref b1), .val (.ref b8), .val (.ref b17), .val (.ref b28), .val (.int (((31 : Int32) * p1) + p2)), .val (.int (((31 : Int32) * p1) + p2)), .val (.int (((31 : Int32) * p3) + p2)), .val (.int (((31 : Int32) * p1) + p4)), .val (.int (1 : Int32)), .unset, .unset] [(.int (0 : Int32))]))
    refine own_st (fun _ k => XS.iconst X49.here hx rfl (hb hby at_107) k) ?_
    show own_Gl _ _ _ _ _ _ _ (T49.setTop (mkF m 108 #[.val (.int p1), .val (.int p2), .val (.int p3), .val (.int p4), .val (.ref b1), .val (.ref b8), .val (.ref b17), .val (.ref b28), .val (.int (((31 : Int32) * p1) + p2)), .val (.int (((31 : Int32) * p1) + p2)), .val (.int (((31 : Int32) * p3) + p2)), .val (.int (((31 : Int32) * p1) + p4)), .val (.int (1 : Int32)), .unset, .unset] [(.int (0 : Int32)), (.int (0 : Int32))]))
    have hd64 : (0 : Int32) = (0 : Int32) := (by decide)
    refine own_st (fun _ k => XS.icmpNo X49.here hx rfl (hb hby at_108) rfl (teq hd64).2 k) ?_
    show own_Gl _ _ _ _ _ _ _ (T49.setTop (mkF m 111 #[.val (.int p1), .val (.int p2), .val (.int p3), .val (.int p4), .val (.ref b1), .val (.ref b8), .val (.ref b17), .val (.ref b28), .val (.int (((31 : Int32) * p1) + p2)), .val (.int (((31 : Int32) * p1) + p2)), .val (.int (((31 : Int32) * p3) + p2)), .val (.int (((31 : Int32) * p1) + p4)), .val (.int (1 : Int32)), .unset, .unset] []))
    refine own_st (fun _ k => XS.iconst X49.here hx rfl (hb hby at_111) k) ?_
    show own_Gl _ _ _ _ _ _ _ (T49.setTop (mkF m 112 #[.val (.int p1), .val (.int p2), .val (.int p3), .val (.int p4), .val (.ref b1), .val (.ref b8), .val (.ref b17), .val (.ref b28), .val (.int (((31 : Int32) * p1) + p2)), .val (.int (((31 : Int32) * p1) + p2)), .val (.int (((31 : Int32) * p3) + p2)), .val (.int (((31 : Int32) * p1) + p4)), .val (.int (1 : Int32)), .unset, .unset] [(.int (1 : Int32))]))
    refine own_st (fun _ k => XS.goto X49.here hx rfl (pc0 := 112) (pc' := 116) rfl (hb hby at_112) (by decide) (by decide) k) ?_
    show own_Gl _ _ _ _ _ _ _ (T49.setTop (mkF m 116 #[.val (.int p1), .val (.int p2), .val (.int p3), .val (.int p4), .val (.ref b1), .val (.ref b8), .val (.ref b17), .val (.ref b28), .val (.int (((31 : Int32) * p1) + p2)), .val (.int (((31 : Int32) * p1) + p2)), .val (.int (((31 : Int32) * p3) + p2)), .val (.int (((31 : Int32) * p1) + p4)), .val (.int (1 : Int32)), .unset, .unset] [(.int (1 : Int32))]))
    refine own_st (fun _ k => XS.istore X49.here hx rfl (hb hby at_116) rfl (l' := #[.val (.int p1), .val (.int p2), .val (.int p3), .val (.int p4), .val (.ref b1), .val (.ref b8), .val (.ref b17), .val (.ref b28), .val (.int (((31 : Int32) * p1) + p2)), .val (.int (((31 : Int32) * p1) + p2)), .val (.int (((31 : Int32) * p3) + p2)), .val (.int (((31 : Int32) * p1) + p4)), .val (.int (1 : Int32)), .val (.int (1 : Int32)), .unset]) rfl k) ?_
    show own_Gl _ _ _ _ _ _ _ (T49.setTop (mkF m 118 #[.val (.int p1), .val (.int p2), .val (.int p3), .val (.int p4), .val (.ref b1), .val (.ref b8), .val (.ref b17), .val (.ref b28), .val (.int (((31 : Int32) * p1) + p2)), .val (.int (((31 : Int32) * p1) + p2)), .val (.int (((31 : Int32) * p3) + p2)), .val (.int (((31 : Int32) * p1) + p4)), .val (.int (1 : Int32)), .val (.int (1 : Int32)), .unset] []))
    refine own_st (fun _ k => XS.iload X49.here hx rfl (hb hby at_118) rfl k) ?_
    show own_Gl _ _ _ _ _ _ _ (T49.setTop (mkF m 120 #[.val (.int p1), .val (.int p2), .val (.int p3), .val (.int p4), .val (.ref b1), .val (.ref b8), .val (.ref b17), .val (.ref b28), .val (.int (((31 : Int32) * p1) + p2)), .val (.int (((31 : Int32) * p1) + p2)), .val (.int (((31 : Int32) * p3) + p2)), .val (.int (((31 : Int32) * p1) + p4)), .val (.int (1 : Int32)), .val (.int (1 : Int32)), .unset] [(.int (((31 : Int32) * p1) + p2))]))
    refine own_st (fun _ k => XS.iload X49.here hx rfl (hb hby at_120) rfl k) ?_
    show own_Gl _ _ _ _ _ _ _ (T49.setTop (mkF m 122 #[.val (.int p1), .val (.int p2), .val (.int p3), .val (.int p4), .val (.ref b1), .val (.ref b8), .val (.ref b17), .val (.ref b28), .val (.int (((31 : Int32) * p1) + p2)), .val (.int (((31 : Int32) * p1) + p2)), .val (.int (((31 : Int32) * p3) + p2)), .val (.int (((31 : Int32) * p1) + p4)), .val (.int (1 : Int32)), .val (.int (1 : Int32)), .unset] [(.int (((31 : Int32) * p1) + p4)), (.int (((31 : Int32) * p1) + p2))]))
    by_cases hc122 : (((31 : Int32) * p1) + p2) = (((31 : Int32) * p1) + p4)
    · refine own_st (fun _ k => XS.icmpNo X49.here hx rfl (hb hby at_122) rfl (teq hc122).2 k) ?_
      show own_Gl _ _ _ _ _ _ _ (T49.setTop (mkF m 125 #[.val (.int p1), .val (.int p2), .val (.int p3), .val (.int p4), .val (.ref b1), .val (.ref b8), .val (.ref b17), .val (.ref b28), .val (.int (((31 : Int32) * p1) + p2)), .val (.int (((31 : Int32) * p1) + p2)), .val (.int (((31 : Int32) * p3) + p2)), .val (.int (((31 : Int32) * p1) + p4)), .val (.int (1 : Int32)), .val (.int (1 : Int32)), .unset] []))
      refine own_st (fun _ k => XS.iconst X49.here hx rfl (hb hby at_125) k) ?_
      show own_Gl _ _ _ _ _ _ _ (T49.setTop (mkF m 126 #[.val (.int p1), .val (.int p2), .val (.int p3), .val (.int p4), .val (.ref b1), .val (.ref b8), .val (.ref b17), .val (.ref b28), .val (.int (((31 : Int32) * p1) + p2)), .val (.int (((31 : Int32) * p1) + p2)), .val (.int (((31 : Int32) * p3) + p2)), .val (.int (((31 : Int32) * p1) + p4)), .val (.int (1 : Int32)), .val (.int (1 : Int32)), .unset] [(.int (1 : Int32))]))
      refine own_st (fun _ k => XS.goto X49.here hx rfl (pc0 := 126) (pc' := 130) rfl (hb hby at_126) (by decide) (by decide) k) ?_
      show own_Gl _ _ _ _ _ _ _ (T49.setTop (mkF m 130 #[.val (.int p1), .val (.int p2), .val (.int p3), .val (.int p4), .val (.ref b1), .val (.ref b8), .val (.ref b17), .val (.ref b28), .val (.int (((31 : Int32) * p1) + p2)), .val (.int (((31 : Int32) * p1) + p2)), .val (.int (((31 : Int32) * p3) + p2)), .val (.int (((31 : Int32) * p1) + p4)), .val (.int (1 : Int32)), .val (.int (1 : Int32)), .unset] [(.int (1 : Int32))]))
      refine own_st (fun _ k => XS.iloadN X49.here hx rfl (hb hby at_130) rfl k) ?_
      show own_Gl _ _ _ _ _ _ _ (T49.setTop (mkF m 131 #[.val (.int p1), .val (.int p2), .val (.int p3), .val (.int p4), .val (.ref b1), .val (.ref b8), .val (.ref b17), .val (.ref b28), .val (.int (((31 : Int32) * p1) + p2)), .val (.int (((31 : Int32) * p1) + p2)), .val (.int (((31 : Int32) * p3) + p2)), .val (.int (((31 : Int32) * p1) + p4)), .val (.int (1 : Int32)), .val (.int (1 : Int32)), .unset] [(.int p2), (.int (1 : Int32))]))
      refine own_st (fun _ k => XS.iloadN X49.here hx rfl (hb hby at_131) rfl k) ?_
      show own_Gl _ _ _ _ _ _ _ (T49.setTop (mkF m 132 #[.val (.int p1), .val (.int p2), .val (.int p3), .val (.int p4), .val (.ref b1), .val (.ref b8), .val (.ref b17), .val (.ref b28), .val (.int (((31 : Int32) * p1) + p2)), .val (.int (((31 : Int32) * p1) + p2)), .val (.int (((31 : Int32) * p3) + p2)), .val (.int (((31 : Int32) * p1) + p4)), .val (.int (1 : Int32)), .val (.int (1 : Int32)), .unset] [(.int p4), (.int p2), (.int (1 : Int32))]))
      have hd65 : p2 = p4 := (own_h2 _ _ _).mp hc122
      refine own_st (fun _ k => XS.icmpNo X49.here hx rfl (hb hby at_132) rfl (teq hd65).2 k) ?_
      show own_Gl _ _ _ _ _ _ _ (T49.setTop (mkF m 135 #[.val (.int p1), .val (.int p2), .val (.int p3), .val (.int p4), .val (.ref b1), .val (.ref b8), .val (.ref b17), .val (.ref b28), .val (.int (((31 : Int32) * p1) + p2)), .val (.int (((31 : Int32) * p1) + p2)), .val (.int (((31 : Int32) * p3) + p2)), .val (.int (((31 : Int32) * p1) + p4)), .val (.int (1 : Int32)), .val (.int (1 : Int32)), .unset] [(.int (1 : Int32))]))
      refine own_st (fun _ k => XS.iconst X49.here hx rfl (hb hby at_135) k) ?_
      show own_Gl _ _ _ _ _ _ _ (T49.setTop (mkF m 136 #[.val (.int p1), .val (.int p2), .val (.int p3), .val (.int p4), .val (.ref b1), .val (.ref b8), .val (.ref b17), .val (.ref b28), .val (.int (((31 : Int32) * p1) + p2)), .val (.int (((31 : Int32) * p1) + p2)), .val (.int (((31 : Int32) * p3) + p2)), .val (.int (((31 : Int32) * p1) + p4)), .val (.int (1 : Int32)), .val (.int (1 : Int32)), .unset] [(.int (1 : Int32)), (.int (1 : Int32))]))
      refine own_st (fun _ k => XS.goto X49.here hx rfl (pc0 := 136) (pc' := 140) rfl (hb hby at_136) (by decide) (by decide) k) ?_
      show own_Gl _ _ _ _ _ _ _ (T49.setTop (mkF m 140 #[.val (.int p1), .val (.int p2), .val (.int p3), .val (.int p4), .val (.ref b1), .val (.ref b8), .val (.ref b17), .val (.ref b28), .val (.int (((31 : Int32) * p1) + p2)), .val (.int (((31 : Int32) * p1) + p2)), .val (.int (((31 : Int32) * p3) + p2)), .val (.int (((31 : Int32) * p1) + p4)), .val (.int (1 : Int32)), .val (.int (1 : Int32)), .unset] [(.int (1 : Int32)), (.int (1 : Int32))]))
      have hd66 : (1 : Int32) = (1 : Int32) := (by decide)
      refine own_st (fun _ k => XS.icmpNo X49.here hx rfl (hb hby at_140) rfl (teq hd66).2 k) ?_
      show own_Gl _ _ _ _ _ _ _ (T49.setTop (mkF m 143 #[.val (.int p1), .val (.int p2), .val (.int p3), .val (.int p4), .val (.ref b1), .val (.ref b8), .val (.ref b17), .val (.ref b28), .val (.int (((31 : Int32) * p1) + p2)), .val (.int (((31 : Int32) * p1) + p2)), .val (.int (((31 : Int32) * p3) + p2)), .val (.int (((31 : Int32) * p1) + p4)), .val (.int (1 : Int32)), .val (.int (1 : Int32)), .unset] []))
      refine own_st (fun _ k => XS.iconst X49.here hx rfl (hb hby at_143) k) ?_
      show own_Gl _ _ _ _ _ _ _ (T49.setTop (mkF m 144 #[.val (.int p1), .val (.int p2), .val (.int p3), .val (.int p4), .val (.ref b1), .val (.ref b8), .val (.ref b17), .val (.ref b28), .val (.int (((31 : Int32) * p1) + p2)), .val (.int (((31 : Int32) * p1) + p2)), .val (.int (((31 : Int32) * p3) + p2)), .val (.int (((31 : Int32) * p1) + p4)), .val (.int (1 : Int32)), .val (.int (1 : Int32)), .unset] [(.int (1 : Int32))]))
      refine own_st (fun _ k => XS.goto X49.here hx rfl (pc0 := 144) (pc' := 148) rfl (hb hby at_144) (by decide) (by decide) k) ?_
      show own_Gl _ _ _ _ _ _ _ (T49.setTop (mkF m 148 #[.val (.int p1), .val (.int p2), .val (.int p3), .val (.int p4), .val (.ref b1), .val (.ref b8), .val (.ref b17), .val (.ref b28), .val (.int (((31 : Int32) * p1) + p2)), .val (.int (((31 : Int32) * p1) + p2)), .val (.int (((31 : Int32) * p3) + p2)), .val (.int (((31 : Int32) * p1) + p4)), .val (.int (1 : Int32)), .val (.int (1 : Int32)), .unset] [(.int (1 : Int32))]))
      refine own_st (fun _ k => XS.istore X49.here hx rfl (hb hby at_148) rfl (l' := #[.val (.int p1), .val (.int p2), .val (.int p3), .val (.int p4), .val (.ref b1), .val (.ref b8), .val (.ref b17), .val (.ref b28), .val (.int (((31 : Int32) * p1) + p2)), .val (.int (((31 : Int32) * p1) + p2)), .val (.int (((31 : Int32) * p3) + p2)), .val (.int (((31 : Int32) * p1) + p4)), .val (.int (1 : Int32)), .val (.int (1 : Int32)), .val (.int (1 : Int32))]) rfl k) ?_
      show own_Gl _ _ _ _ _ _ _ (T49.setTop (mkF m 150 #[.val (.int p1), .val (.int p2), .val (.int p3), .val (.int p4), .val (.ref b1), .val (.ref b8), .val (.ref b17), .val (.ref b28), .val (.int (((31 : Int32) * p1) + p2)), .val (.int (((31 : Int32) * p1) + p2)), .val (.int (((31 : Int32) * p3) + p2)), .val (.int (((31 : Int32) * p1) + p4)), .val (.int (1 : Int32)), .val (.int (1 : Int32)), .val (.int (1 : Int32))] []))
      refine own_st (fun _ k => XS.iload X49.here hx rfl (hb hby at_150) rfl k) ?_
      show own_Gl _ _ _ _ _ _ _ (T49.setTop (mkF m 152 #[.val (.int p1), .val (.int p2), .val (.int p3), .val (.int p4), .val (.ref b1), .val (.ref b8), .val (.ref b17), .val (.ref b28), .val (.int (((31 : Int32) * p1) + p2)), .val (.int (((31 : Int32) * p1) + p2)), .val (.int (((31 : Int32) * p3) + p2)), .val (.int (((31 : Int32) * p1) + p4)), .val (.int (1 : Int32)), .val (.int (1 : Int32)), .val (.int (1 : Int32))] [(.int (1 : Int32))]))
      have hd67 : ¬ ((1 : Int32) = (0 : Int32)) := (by decide)
      refine own_st (fun _ k => XS.ifNo X49.here hx rfl (hb hby at_152) rfl ((if0 _ _).trans (feq hd67).1) k) ?_
      show own_Gl _ _ _ _ _ _ _ (T49.setTop (mkF m 155 #[.val (.int p1), .val (.int p2), .val (.int p3), .val (.int p4), .val (.ref b1), .val (.ref b8), .val (.ref b17), .val (.ref b28), .val (.int (((31 : Int32) * p1) + p2)), .val (.int (((31 : Int32) * p1) + p2)), .val (.int (((31 : Int32) * p3) + p2)), .val (.int (((31 : Int32) * p1) + p4)), .val (.int (1 : Int32)), .val (.int (1 : Int32)), .val (.int (1 : Int32))] []))
      refine own_st (fun _ k => XS.iload X49.here hx rfl (hb hby at_155) rfl k) ?_
      show own_Gl _ _ _ _ _ _ _ (T49.setTop (mkF m 157 #[.val (.int p1), .val (.int p2), .val (.int p3), .val (.int p4), .val (.ref b1), .val (.ref b8), .val (.ref b17), .val (.ref b28), .val (.int (((31 : Int32) * p1) + p2)), .val (.int (((31 : Int32) * p1) + p2)), .val (.int (((31 : Int32) * p3) + p2)), .val (.int (((31 : Int32) * p1) + p4)), .val (.int (1 : Int32)), .val (.int (1 : Int32)), .val (.int (1 : Int32))] [(.int (1 : Int32))]))
      have hd68 : ¬ ((1 : Int32) = (0 : Int32)) := (by decide)
      refine own_st (fun _ k => XS.ifNo X49.here hx rfl (hb hby at_157) rfl ((if0 _ _).trans (feq hd68).1) k) ?_
      show own_Gl _ _ _ _ _ _ _ (T49.setTop (mkF m 160 #[.val (.int p1), .val (.int p2), .val (.int p3), .val (.int p4), .val (.ref b1), .val (.ref b8), .val (.ref b17), .val (.ref b28), .val (.int (((31 : Int32) * p1) + p2)), .val (.int (((31 : Int32) * p1) + p2)), .val (.int (((31 : Int32) * p3) + p2)), .val (.int (((31 : Int32) * p1) + p4)), .val (.int (1 : Int32)), .val (.int (1 : Int32)), .val (.int (1 : Int32))] []))
      refine own_st (fun _ k => XS.iload X49.here hx rfl (hb hby at_160) rfl k) ?_
      show own_Gl _ _ _ _ _ _ _ (T49.setTop (mkF m 162 #[.val (.int p1), .val (.int p2), .val (.int p3), .val (.int p4), .val (.ref b1), .val (.ref b8), .val (.ref b17), .val (.ref b28), .val (.int (((31 : Int32) * p1) + p2)), .val (.int (((31 : Int32) * p1) + p2)), .val (.int (((31 : Int32) * p3) + p2)), .val (.int (((31 : Int32) * p1) + p4)), .val (.int (1 : Int32)), .val (.int (1 : Int32)), .val (.int (1 : Int32))] [(.int (1 : Int32))]))
      have hd69 : ¬ ((1 : Int32) = (0 : Int32)) := (by decide)
      refine own_st (fun _ k => XS.ifNo X49.here hx rfl (hb hby at_162) rfl ((if0 _ _).trans (feq hd69).1) k) ?_
      show own_Gl _ _ _ _ _ _ _ (T49.setTop (mkF m 165 #[.val (.int p1), .val (.int p2), .val (.int p3), .val (.int p4), .val (.ref b1), .val (.ref b8), .val (.ref b17), .val (.ref b28), .val (.int (((31 : Int32) * p1) + p2)), .val (.int (((31 : Int32) * p1) + p2)), .val (.int (((31 : Int32) * p3) + p2)), .val (.int (((31 : Int32) * p1) + p4)), .val (.int (1 : Int32)), .val (.int (1 : Int32)), .val (.int (1 : Int32))] []))
      refine own_st (fun _ k => XS.iconst X49.here hx rfl (hb hby at_165) k) ?_
      show own_Gl _ _ _ _ _ _ _ (T49.setTop (mkF m 166 #[.val (.int p1), .val (.int p2), .val (.int p3), .val (.int p4), .val (.ref b1), .val (.ref b8), .val (.ref b17), .val (.ref b28), .val (.int (((31 : Int32) * p1) + p2)), .val (.int (((31 : Int32) * p1) + p2)), .val (.int (((31 : Int32) * p3) + p2)), .val (.int (((31 : Int32) * p1) + p4)), .val (.int (1 : Int32)), .val (.int (1 : Int32)), .val (.int (1 : Int32))] [(.int (1 : Int32))]))
      refine own_st (fun _ k => XS.goto X49.here hx rfl (pc0 := 166) (pc' := 170) rfl (hb hby at_166) (by decide) (by decide) k) ?_
      show own_Gl _ _ _ _ _ _ _ (T49.setTop (mkF m 170 #[.val (.int p1), .val (.int p2), .val (.int p3), .val (.int p4), .val (.ref b1), .val (.ref b8), .val (.ref b17), .val (.ref b28), .val (.int (((31 : Int32) * p1) + p2)), .val (.int (((31 : Int32) * p1) + p2)), .val (.int (((31 : Int32) * p3) + p2)), .val (.int (((31 : Int32) * p1) + p4)), .val (.int (1 : Int32)), .val (.int (1 : Int32)), .val (.int (1 : Int32))] [(.int (1 : Int32))]))
      exact own_retN X49 hx hlk (t := .boolean) hret (by simp) (hb hby at_170) e49 ⟨rfl, N49⟩ (by decide) (by decide)
    · refine own_st (fun _ k => XS.icmpYes X49.here hx rfl (pc0 := 122) (pc' := 129) rfl (hb hby at_122) rfl (feq hc122).2 (by decide) (by decide) k) ?_
      show own_Gl _ _ _ _ _ _ _ (T49.setTop (mkF m 129 #[.val (.int p1), .val (.int p2), .val (.int p3), .val (.int p4), .val (.ref b1), .val (.ref b8), .val (.ref b17), .val (.ref b28), .val (.int (((31 : Int32) * p1) + p2)), .val (.int (((31 : Int32) * p1) + p2)), .val (.int (((31 : Int32) * p3) + p2)), .val (.int (((31 : Int32) * p1) + p4)), .val (.int (1 : Int32)), .val (.int (1 : Int32)), .unset] []))
      refine own_st (fun _ k => XS.iconst X49.here hx rfl (hb hby at_129) k) ?_
      show own_Gl _ _ _ _ _ _ _ (T49.setTop (mkF m 130 #[.val (.int p1), .val (.int p2), .val (.int p3), .val (.int p4), .val (.ref b1), .val (.ref b8), .val (.ref b17), .val (.ref b28), .val (.int (((31 : Int32) * p1) + p2)), .val (.int (((31 : Int32) * p1) + p2)), .val (.int (((31 : Int32) * p3) + p2)), .val (.int (((31 : Int32) * p1) + p4)), .val (.int (1 : Int32)), .val (.int (1 : Int32)), .unset] [(.int (0 : Int32))]))
      refine own_st (fun _ k => XS.iloadN X49.here hx rfl (hb hby at_130) rfl k) ?_
      show own_Gl _ _ _ _ _ _ _ (T49.setTop (mkF m 131 #[.val (.int p1), .val (.int p2), .val (.int p3), .val (.int p4), .val (.ref b1), .val (.ref b8), .val (.ref b17), .val (.ref b28), .val (.int (((31 : Int32) * p1) + p2)), .val (.int (((31 : Int32) * p1) + p2)), .val (.int (((31 : Int32) * p3) + p2)), .val (.int (((31 : Int32) * p1) + p4)), .val (.int (1 : Int32)), .val (.int (1 : Int32)), .unset] [(.int p2), (.int (0 : Int32))]))
      refine own_st (fun _ k => XS.iloadN X49.here hx rfl (hb hby at_131) rfl k) ?_
      show own_Gl _ _ _ _ _ _ _ (T49.setTop (mkF m 132 #[.val (.int p1), .val (.int p2), .val (.int p3), .val (.int p4), .val (.ref b1), .val (.ref b8), .val (.ref b17), .val (.ref b28), .val (.int (((31 : Int32) * p1) + p2)), .val (.int (((31 : Int32) * p1) + p2)), .val (.int (((31 : Int32) * p3) + p2)), .val (.int (((31 : Int32) * p1) + p4)), .val (.int (1 : Int32)), .val (.int (1 : Int32)), .unset] [(.int p4), (.int p2), (.int (0 : Int32))]))
      have hd70 : ¬ (p2 = p4) := mt (own_h2 _ _ _).mpr hc122
      refine own_st (fun _ k => XS.icmpYes X49.here hx rfl (pc0 := 132) (pc' := 139) rfl (hb hby at_132) rfl (feq hd70).2 (by decide) (by decide) k) ?_
      show own_Gl _ _ _ _ _ _ _ (T49.setTop (mkF m 139 #[.val (.int p1), .val (.int p2), .val (.int p3), .val (.int p4), .val (.ref b1), .val (.ref b8), .val (.ref b17), .val (.ref b28), .val (.int (((31 : Int32) * p1) + p2)), .val (.int (((31 : Int32) * p1) + p2)), .val (.int (((31 : Int32) * p3) + p2)), .val (.int (((31 : Int32) * p1) + p4)), .val (.int (1 : Int32)), .val (.int (1 : Int32)), .unset] [(.int (0 : Int32))]))
      refine own_st (fun _ k => XS.iconst X49.here hx rfl (hb hby at_139) k) ?_
      show own_Gl _ _ _ _ _ _ _ (T49.setTop (mkF m 140 #[.val (.int p1), .val (.int p2), .val (.int p3), .val (.int p4), .val (.ref b1), .val (.ref b8), .val (.ref b17), .val (.ref b28), .val (.int (((31 : Int32) * p1) + p2)), .val (.int (((31 : Int32) * p1) + p2)), .val (.int (((31 : Int32) * p3) + p2)), .val (.int (((31 : Int32) * p1) + p4)), .val (.int (1 : Int32)), .val (.int (1 : Int32)), .unset] [(.int (0 : Int32)), (.int (0 : Int32))]))
      have hd71 : (0 : Int32) = (0 : Int32) := (by decide)
      refine own_st (fun _ k => XS.icmpNo X49.here hx rfl (hb hby at_140) rfl (teq hd71).2 k) ?_
      show own_Gl _ _ _ _ _ _ _ (T49.setTop (mkF m 143 #[.val (.int p1), .val (.int p2), .val (.int p3), .val (.int p4), .val (.ref b1), .val (.ref b8), .val (.ref b17), .val (.ref b28), .val (.int (((31 : Int32) * p1) + p2)), .val (.int (((31 : Int32) * p1) + p2)), .val (.int (((31 : Int32) * p3) + p2)), .val (.int (((31 : Int32) * p1) + p4)), .val (.int (1 : Int32)), .val (.int (1 : Int32)), .unset] []))
      refine own_st (fun _ k => XS.iconst X49.here hx rfl (hb hby at_143) k) ?_
      show own_Gl _ _ _ _ _ _ _ (T49.setTop (mkF m 144 #[.val (.int p1), .val (.int p2), .val (.int p3), .val (.int p4), .val (.ref b1), .val (.ref b8), .val (.ref b17), .val (.ref b28), .val (.int (((31 : Int32) * p1) + p2)), .val (.int (((31 : Int32) * p1) + p2)), .val (.int (((31 : Int32) * p3) + p2)), .val (.int (((31 : Int32) * p1) + p4)), .val (.int (1 : Int32)), .val (.int (1 : Int32)), .unset] [(.int (1 : Int32))]))
      refine own_st (fun _ k => XS.goto X49.here hx rfl (pc0 := 144) (pc' := 148) rfl (hb hby at_144) (by decide) (by decide) k) ?_
      show own_Gl _ _ _ _ _ _ _ (T49.setTop (mkF m 148 #[.val (.int p1), .val (.int p2), .val (.int p3), .val (.int p4), .val (.ref b1), .val (.ref b8), .val (.ref b17), .val (.ref b28), .val (.int (((31 : Int32) * p1) + p2)), .val (.int (((31 : Int32) * p1) + p2)), .val (.int (((31 : Int32) * p3) + p2)), .val (.int (((31 : Int32) * p1) + p4)), .val (.int (1 : Int32)), .val (.int (1 : Int32)), .unset] [(.int (1 : Int32))]))
      refine own_st (fun _ k => XS.istore X49.here hx rfl (hb hby at_148) rfl (l' := #[.val (.int p1), .val (.int p2), .val (.int p3), .val (.int p4), .val (.ref b1), .val (.ref b8), .val (.ref b17), .val (.ref b28), .val (.int (((31 : Int32) * p1) + p2)), .val (.int (((31 : Int32) * p1) + p2)), .val (.int (((31 : Int32) * p3) + p2)), .val (.int (((31 : Int32) * p1) + p4)), .val (.int (1 : Int32)), .val (.int (1 : Int32)), .val (.int (1 : Int32))]) rfl k) ?_
      show own_Gl _ _ _ _ _ _ _ (T49.setTop (mkF m 150 #[.val (.int p1), .val (.int p2), .val (.int p3), .val (.int p4), .val (.ref b1), .val (.ref b8), .val (.ref b17), .val (.ref b28), .val (.int (((31 : Int32) * p1) + p2)), .val (.int (((31 : Int32) * p1) + p2)), .val (.int (((31 : Int32) * p3) + p2)), .val (.int (((31 : Int32) * p1) + p4)), .val (.int (1 : Int32)), .val (.int (1 : Int32)), .val (.int (1 : Int32))] []))
      refine own_st (fun _ k => XS.iload X49.here hx rfl (hb hby at_150) rfl k) ?_
      show own_Gl _ _ _ _ _ _ _ (T49.setTop (mkF m 152 #[.val (.int p1), .val (.int p2), .val (.int p3), .val (.int p4), .val (.ref b1), .val (.ref b8), .val (.ref b17), .val (.ref b28), .val (.int (((31 : Int32) * p1) + p2)), .val (.int (((31 : Int32) * p1) + p2)), .val (.int (((31 : Int32) * p3) + p2)), .val (.int (((31 : Int32) * p1) + p4)), .val (.int (1 : Int32)), .val (.int (1 : Int32)), .val (.int (1 : Int32))] [(.int (1 : Int32))]))
      have hd72 : ¬ ((1 : Int32) = (0 : Int32)) := (by decide)
      refine own_st (fun _ k => XS.ifNo X49.here hx rfl (hb hby at_152) rfl ((if0 _ _).trans (feq hd72).1) k) ?_
      show own_Gl _ _ _ _ _ _ _ (T49.setTop (mkF m 155 #[.val (.int p1), .val (.int p2), .val (.int p3), .val (.int p4), .val (.ref b1), .val (.ref b8), .val (.ref b17), .val (.ref b28), .val (.int (((31 : Int32) * p1) + p2)), .val (.int (((31 : Int32) * p1) + p2)), .val (.int (((31 : Int32) * p3) + p2)), .val (.int (((31 : Int32) * p1) + p4)), .val (.int (1 : Int32)), .val (.int (1 : Int32)), .val (.int (1 : Int32))] []))
      refine own_st (fun _ k => XS.iload X49.here hx rfl (hb hby at_155) rfl k) ?_
      show own_Gl _ _ _ _ _ _ _ (T49.setTop (mkF m 157 #[.val (.int p1), .val (.int p2), .val (.int p3), .val (.int p4), .val (.ref b1), .val (.ref b8), .val (.ref b17), .val (.ref b28), .val (.int (((31 : Int32) * p1) + p2)), .val (.int (((31 : Int32) * p1) + p2)), .val (.int (((31 : Int32) * p3) + p2)), .val (.int (((31 : Int32) * p1) + p4)), .val (.int (1 : Int32)), .val (.int (1 : Int32)), .val (.int (1 : Int32))] [(.int (1 : Int32))]))
      have hd73 : ¬ ((1 : Int32) = (0 : Int32)) := (by decide)
      refine own_st (fun _ k => XS.ifNo X49.here hx rfl (hb hby at_157) rfl ((if0 _ _).trans (feq hd73).1) k) ?_
      show own_Gl _ _ _ _ _ _ _ (T49.setTop (mkF m 160 #[.val (.int p1), .val (.int p2), .val (.int p3), .val (.int p4), .val (.ref b1), .val (.ref b8), .val (.ref b17), .val (.ref b28), .val (.int (((31 : Int32) * p1) + p2)), .val (.int (((31 : Int32) * p1) + p2)), .val (.int (((31 : Int32) * p3) + p2)), .val (.int (((31 : Int32) * p1) + p4)), .val (.int (1 : Int32)), .val (.int (1 : Int32)), .val (.int (1 : Int32))] []))
      refine own_st (fun _ k => XS.iload X49.here hx rfl (hb hby at_160) rfl k) ?_
      show own_Gl _ _ _ _ _ _ _ (T49.setTop (mkF m 162 #[.val (.int p1), .val (.int p2), .val (.int p3), .val (.int p4), .val (.ref b1), .val (.ref b8), .val (.ref b17), .val (.ref b28), .val (.int (((31 : Int32) * p1) + p2)), .val (.int (((31 : Int32) * p1) + p2)), .val (.int (((31 : Int32) * p3) + p2)), .val (.int (((31 : Int32) * p1) + p4)), .val (.int (1 : Int32)), .val (.int (1 : Int32)), .val (.int (1 : Int32))] [(.int (1 : Int32))]))
      have hd74 : ¬ ((1 : Int32) = (0 : Int32)) := (by decide)
      refine own_st (fun _ k => XS.ifNo X49.here hx rfl (hb hby at_162) rfl ((if0 _ _).trans (feq hd74).1) k) ?_
      show own_Gl _ _ _ _ _ _ _ (T49.setTop (mkF m 165 #[.val (.int p1), .val (.int p2), .val (.int p3), .val (.int p4), .val (.ref b1), .val (.ref b8), .val (.ref b17), .val (.ref b28), .val (.int (((31 : Int32) * p1) + p2)), .val (.int (((31 : Int32) * p1) + p2)), .val (.int (((31 : Int32) * p3) + p2)), .val (.int (((31 : Int32) * p1) + p4)), .val (.int (1 : Int32)), .val (.int (1 : Int32)), .val (.int (1 : Int32))] []))
      refine own_st (fun _ k => XS.iconst X49.here hx rfl (hb hby at_165) k) ?_
      show own_Gl _ _ _ _ _ _ _ (T49.setTop (mkF m 166 #[.val (.int p1), .val (.int p2), .val (.int p3), .val (.int p4), .val (.ref b1), .val (.ref b8), .val (.ref b17), .val (.ref b28), .val (.int (((31 : Int32) * p1) + p2)), .val (.int (((31 : Int32) * p1) + p2)), .val (.int (((31 : Int32) * p3) + p2)), .val (.int (((31 : Int32) * p1) + p4)), .val (.int (1 : Int32)), .val (.int (1 : Int32)), .val (.int (1 : Int32))] [(.int (1 : Int32))]))
      refine own_st (fun _ k => XS.goto X49.here hx rfl (pc0 := 166) (pc' := 170) rfl (hb hby at_166) (by decide) (by decide) k) ?_
      show own_Gl _ _ _ _ _ _ _ (T49.setTop (mkF m 170 #[.val (.int p1), .val (.int p2), .val (.int p3), .val (.int p4), .val (.ref b1), .val (.ref b8), .val (.ref b17), .val (.ref b28), .val (.int (((31 : Int32) * p1) + p2)), .val (.int (((31 : Int32) * p1) + p2)), .val (.int (((31 : Int32) * p3) + p2)), .val (.int (((31 : Int32) * p1) + p4)), .val (.int (1 : Int32)), .val (.int (1 : Int32)), .val (.int (1 : Int32))] [(.int (1 : Int32))]))
      exact own_retN X49 hx hlk (t := .boolean) hret (by simp) (hb hby at_170) e49 ⟨rfl, N49⟩ (by decide) (by decide)
set_option maxRecDepth 65536 in
set_option maxHeartbeats 40000000 in
theorem comes_1 {Post : Tables → Env → Array Value → State → Outcome → State → Prop} (hpost : ∀ tb e args s v u, (limb_1_1.after args s (.returned v) u = true ∧ limb_1_2.after args s (.returned v) u = true ∧ True) → FrameEnd s (.returned v) u (Jvm.fieldLocs frame_1_writes args s ++ Jvm.arrayLocs frame_1_arrays args s ++ Jvm.staticLocs frame_1_statics s) 16 128 → Post tb e args s (.returned v) u) :
    ArmFor flags0 classFile x code maxLocals ret World_1 tables_1 room_1 Calls_1 rest_1 Pre_1 Post := by
  intro l hfl _ _ p e ha hc hk s m args below hf hA hF happ hP
  obtain ⟨hcalls, hrest, hpre⟩ := hP
  obtain ⟨-, -, -, hnamed, -, -, -, hat⟩ := (Spec.applies_iff hf).mp happ
  obtain ⟨hg, hn⟩ := and_e (Cond.before_iff.mp (show (Jvm.Cond.and given_1 narrow_1).before args s = true from hpre))
  obtain ⟨gg1, gg2⟩ := and_e hg
  obtain ⟨gg3, gg4⟩ := and_e gg2
  obtain ⟨gg5, gg6⟩ := and_e gg4
  obtain ⟨gg7, gg8⟩ := and_e gg6
  obtain ⟨w0, w1, w2, w3, rfl⟩ : ∃ w0 w1 w2 w3 : Value, args = #[w0, w1, w2, w3] := by
    have hs : args.size = 4 := by simpa [Cond.value, given_1] using gg1
    obtain ⟨L⟩ := args
    match L, hs with
    | [w0, w1, w2, w3], _ => exact ⟨w0, w1, w2, w3, rfl⟩
  have hw := fun d (hd : d ∈ tables_1) => atoms_spec (ws := Jvm.Cond.code x code maxLocals ret :: tables_1) hat d (List.mem_cons_of_mem _ hd)
  have hfit : Fit s := fun {y c} hc i hi => by
    obtain ⟨ha, rfl⟩ := Array.getElem?_eq_some_iff.mp hc
    have q := List.all_eq_true.mp ((Array.all_eq_true_iff_forall_mem.mp hF) _ (Array.getElem_mem ha)) i (List.mem_range.mpr hi)
    simpa [Array.getElem?_eq_getElem hi] using q
  obtain ⟨i0, ei0⟩ := is_v gg3
  obtain rfl : w0 = (.int i0) := Option.some.inj ei0
  obtain ⟨i1, ei1⟩ := is_v gg5
  obtain rfl : w1 = (.int i1) := Option.some.inj ei1
  obtain ⟨i2, ei2⟩ := is_v gg7
  obtain rfl : w2 = (.int i2) := Option.some.inj ei2
  obtain ⟨i3, ei3⟩ := is_v gg8
  obtain rfl : w3 = (.int i3) := Option.some.inj ei3
  obtain ⟨n, o, h1, h2, h3, _, L, rfl, ⟨rfl, N⟩, hq⟩ := own_law l s _ hw tables_1 i0 i1 i2 i3  s.heap s.heap.size (Nat.le_refl _)  p e ha hc hk s m _ below hf ((Spec.applies_iff_loose hf).mp happ).1 ⟨rfl, State.Warmed39.refl s, rfl⟩ trivial
  refine ⟨n, _, h1, h2, h3, hpost _ _ _ _ _ _ ⟨Cond.after_iff.mpr rfl, Cond.after_iff.mpr (eq_i res_at (Term.int_eval (1)) rfl), trivial⟩ ⟨hq.1, hq.2.1, (hq.2.2.sift fun y hy => Or.inr (N y hy)).mono (by decide) (by decide)⟩⟩
theorem main_1_1 : Claimed_1_1 := comes_1 fun _ _ _ _ _ _ h hF => ⟨h.1, hF⟩
theorem main_1_2 : Claimed_1_2 := comes_1 fun _ _ _ _ _ _ h hF => ⟨h.2.1, hF⟩

end Jvm.Pilot.@@N@@
namespace Jvm.Pilot.@@N@@
open Jvm Jvm.ClassFile Sem Op Lib Jvm.Free Jvm.Stand Jvm.Pilot.@@N@@.Jvm.D
/-! MADE BY PROGRAM (witnessworld.py) out of the Statement's table words and the real class files: 9 classes; the members and pool entries that the words name. The judged class is class 1, her method 1. -/
namespace start1
open Jvm.ClassFile
def u (s : String) : CpInfo := .utf8 (stringToUtf16 s)
/-- a pool by its gaps: so many unusable entries, then the entry; so many at the end -/
def gap : Nat → List CpInfo → List CpInfo
  | 0, r => r
  | n + 1, r => .unusable :: gap n r
def poolList (es : List (Nat × CpInfo)) (last : Nat) : List CpInfo := es.foldr (fun e r => gap e.1 (e.2 :: r)) (gap last [])
def pool (es : List (Nat × CpInfo)) (last : Nat) : Array CpInfo := ⟨poolList es last⟩
def fileOf (pool : Array CpInfo) (this : Nat) (attrs : Array Attribute := #[]) (ms : Array MethodInfo := #[]) (fl : Nat := 33) (sup : Nat := 0) (ifs : Array Nat := #[]) (fds : Array FieldInfo := #[]) : ClassFile where
  minorVersion := 0
  majorVersion := 65
  constantPool := pool
  accessFlags := fl
  thisClass := this
  superClass := sup
  interfaces := ifs
  fields := fds
  methods := ms
  attributes := attrs
def plain (name : String) (sup : Option ClassId) : Class where
  name := name
  kind := .ordinary
  loader := none
  accessFlags := 33
  super := sup
  interfaces := #[]
  cf := none
  fields := #[]
  methods := #[]
  instanceTypes := #[]
  staticTypes := #[]
  resolved := #[]
  callSites := []
  init := .initialized
  statics := none
  mirror := none

def pool0 : Array CpInfo := pool [(5, u "<init>"), (0, u "()V"), (1, .class_ 10), (1, u "java/lang/Object")] 113

def k0c0 : Code := { maxStack := 0, maxLocals := 1, code := object_method_1_code, exceptionTable := #[], attributes := #[] }
def k0m0 : Method := { name := "<init>", desc := "()V", sig := { parameters := [], returnType := none }, accessFlags := 1, code := some k0c0 }
/-- java/lang/Object -/
def k0 : Class := { plain "java/lang/Object" none with
  accessFlags := 33
  interfaces := #[]
  cf := some (fileOf pool0 8 #[] #[{ accessFlags := 1, nameIndex := 5, descriptorIndex := 6, attributes := #[] }] 33 0 #[] #[])
  fields := #[]
  methods := #[k0m0]
  instanceTypes := #[]
  staticTypes := #[]
  resolved := Array.replicate 124 none
  statics := none }

def pool1 : Array CpInfo := pool [(2, .class_ 4), (1, u "java/lang/Object"), (0, u "<init>"), (0, u "()V"), (0, .class_ 8), (0, u "com/example/ewig/ewig/LogRotation"), (0, .methodref 7 10), (0, .nameAndType 5 11), (0, u "(II)V"), (0, .methodref 7 13), (0, .nameAndType 14 15), (0, u "hashCode"), (0, u "()I"), (0, .class_ 17), (0, u "com/example/ewig/ewig/LogRotationHashCodePinLaw"), (2, u "law"), (0, u "(IIII)Z")] 3

def k1m0 : Method := { name := "<init>", desc := "()V", sig := { parameters := [], returnType := none }, accessFlags := 1, code := none }
def k1c1 : Code := { maxStack := 4, maxLocals := 15, code := code, exceptionTable := #[], attributes := #[] }
def k1m1 : Method := { name := "law", desc := "(IIII)Z", sig := { parameters := [.int, .int, .int, .int], returnType := some .boolean }, accessFlags := 9, code := some k1c1 }
/-- com/example/ewig/ewig/LogRotationHashCodePinLaw -/
def k1 : Class := { plain "com/example/ewig/ewig/LogRotationHashCodePinLaw" (some 0) with
  accessFlags := 49
  interfaces := #[]
  cf := some (fileOf pool1 16 #[] #[{ accessFlags := 1, nameIndex := 5, descriptorIndex := 6, attributes := #[] }, { accessFlags := 9, nameIndex := 20, descriptorIndex := 21, attributes := #[] }] 49 2 #[] #[])
  fields := #[]
  methods := #[k1m0, k1m1]
  instanceTypes := #[]
  staticTypes := #[]
  resolved := Array.replicate 25 none
  statics := none }

def pool2 : Array CpInfo := pool [(1, .methodref 2 3), (0, .class_ 4), (0, .nameAndType 5 6), (0, u "java/lang/Object"), (0, u "<init>"), (0, u "()V"), (0, .fieldref 8 9), (0, .class_ 10), (0, .nameAndType 11 12), (0, u "com/example/ewig/ewig/LogRotation"), (0, u "size"), (0, u "I"), (0, .fieldref 8 14), (0, .nameAndType 15 12), (0, u "keep"), (7, u "(II)V"), (2, u "DEFAULT"), (0, u "Lcom/example/ewig/ewig/LogRotation;"), (2, u "()I"), (3, u "hashCode")] 20

def k2c0 : Code := { maxStack := 2, maxLocals := 3, code := prog_4_method_1_code, exceptionTable := #[], attributes := #[] }
def k2m0 : Method := { name := "<init>", desc := "(II)V", sig := { parameters := [.int, .int], returnType := none }, accessFlags := 0, code := some k2c0 }
def k2c1 : Code := { maxStack := 2, maxLocals := 1, code := prog_4_method_5_code, exceptionTable := #[], attributes := #[] }
def k2m1 : Method := { name := "hashCode", desc := "()I", sig := { parameters := [], returnType := some .int }, accessFlags := 1, code := some k2c1 }
/-- com/example/ewig/ewig/LogRotation -/
def k2 : Class := { plain "com/example/ewig/ewig/LogRotation" (some 0) with
  accessFlags := 32
  interfaces := #[]
  cf := some (fileOf pool2 8 #[] #[{ accessFlags := 0, nameIndex := 5, descriptorIndex := 23, attributes := #[] }, { accessFlags := 1, nameIndex := 34, descriptorIndex := 30, attributes := #[] }] 32 2 #[] #[{ accessFlags := 24, nameIndex := 26, descriptorIndex := 27, attributes := #[] }, { accessFlags := 18, nameIndex := 11, descriptorIndex := 12, attributes := #[] }, { accessFlags := 18, nameIndex := 15, descriptorIndex := 12, attributes := #[] }])
  fields := #[{ name := "DEFAULT", type := (.object "com/example/ewig/ewig/LogRotation"), accessFlags := 24, slot := 0, constantValue := 0 }, { name := "size", type := .int, accessFlags := 18, slot := 0, constantValue := 0 }, { name := "keep", type := .int, accessFlags := 18, slot := 1, constantValue := 0 }]
  methods := #[k2m0, k2m1]
  instanceTypes := #[.int, .int]
  staticTypes := #[(.object "com/example/ewig/ewig/LogRotation")]
  resolved := Array.replicate 55 none
  statics := none }

def pool3 : Array CpInfo := pool [(1, u "java/lang/Cloneable"), (0, .class_ 1), (0, u "java/lang/Object"), (0, .class_ 3)] 3

/-- java/lang/Cloneable -/
def k3 : Class := { plain "java/lang/Cloneable" (some 0) with
  accessFlags := 1537
  interfaces := #[]
  cf := some (fileOf pool3 2 #[] #[] 1537 4 #[] #[])
  fields := #[]
  methods := #[]
  instanceTypes := #[]
  staticTypes := #[]
  resolved := Array.replicate 8 none
  statics := none }

def pool4 : Array CpInfo := pool [(1, u "java/io/Serializable"), (0, .class_ 1), (0, u "java/lang/Object"), (0, .class_ 3)] 3

/-- java/io/Serializable -/
def k4 : Class := { plain "java/io/Serializable" (some 0) with
  accessFlags := 1537
  interfaces := #[]
  cf := some (fileOf pool4 2 #[] #[] 1537 4 #[] #[])
  fields := #[]
  methods := #[]
  instanceTypes := #[]
  staticTypes := #[]
  resolved := Array.replicate 8 none
  statics := none }

/-- the primitive byte -/
def k5 : Class := { plain "byte" none with kind := .primitive 'B', accessFlags := 0x411 }
/-- [B -/
def k6 : Class := { plain "[B" (some 0) with kind := .array 5 .byte, interfaces := #[3, 4], accessFlags := 1041 }

/-- the primitive int -/
def k7 : Class := { plain "int" none with kind := .primitive 'I', accessFlags := 0x411 }
/-- [I -/
def k8 : Class := { plain "[I" (some 0) with kind := .array 7 .int, interfaces := #[3, 4], accessFlags := 1041 }

def heap : Heap := #[]
def classes : Array Class := #[k0, k1, k2, k3, k4, k5, k6, k7, k8]
def interned : List (Array UInt16 × Addr) := []
def slotsUsed : Nat := 0
def theMethod : MethodId := ⟨1, 1⟩
def args0 : Array Value := #[.int 5, .int 7, .int 6, .int 7]
def aboutOver (below : List Frame) : State where
  vm := { classes := classes, interned := interned.toArray }
  heap := heap
  slotsUsed := slotsUsed
  threads := #[{ frames := .invoking theMethod args0 :: below }]
def below0 : List Frame := [.native { method := ⟨0, 0⟩, args := #[] }]
def about1 : State := aboutOver below0
def p0 : Program := .bare "" "" ""
def e0 : Env := launch0.env 0 0 0
theorem w_frames : about1.frames = Frame.invoking theMethod args0 :: below0 := rfl
set_option maxRecDepth 65536 in
theorem w_args : argsFit about1.vm theMethod args0 = true := by decide +kernel
set_option maxRecDepth 65536 in
theorem w_heap : heapFits about1 = true := by decide +kernel
set_option maxRecDepth 65536 in
theorem w_runnable : about1.curStatus? = some .runnable := by decide +kernel
set_option maxRecDepth 65536 in
theorem w_alone : about1.alone = true := by decide +kernel
set_option maxRecDepth 65536 in
theorem w_named : about1.methodNamed? x = some theMethod := by decide +kernel
set_option maxRecDepth 65536 in
theorem w_hears : about1.hears theMethod below0 = true := by decide +kernel
set_option maxRecDepth 65536 in
theorem w_ripe : about1.ripe theMethod args0 below0 = true := by decide +kernel
theorem w_running : about1.status = .running := rfl
set_option maxRecDepth 65536 in
theorem w_room : about1.hasRoom e0.platform room_1 = true :=
  launch0.hasRoom_least _ room_1 (by decide +kernel) (by decide +kernel) (by decide +kernel) (by decide +kernel) (by decide +kernel) (by decide +kernel)
theorem allAtoms_all (ts : List Jvm.Cond) (a : Array Jvm.Value) (st : Jvm.State) : (allAtoms ts).before a st = ts.all (fun c => c.before a st) := by
  induction ts with
  | nil => rfl
  | cons c t ih =>
    show (Jvm.Cond.and c (allAtoms t)).before a st = _
    rw [Jvm.Cond.before_and, ih, List.all_cons]
def words1 : List Jvm.Cond := Jvm.Cond.code x code maxLocals ret :: tables_1
/-- a 'code' word, met by the world's own term for the bytes: nothing is compared byte by byte -/
theorem code_word {y : MethodName} {bytes : ByteArray} {mx : Nat} {rt : Option FieldType} {a : Array Value} {s : State} {m : MethodId} {meth : Method} {c : Code} (h1 : s.methodNamed? y = some m) (h2 : s.vm.method? m = some meth) (h3 : meth.code = some c) (h4 : c.code = bytes)
    (h5 : (c.maxLocals == mx && c.exceptionTable.isEmpty && decide (c.maxStack ≤ mostOperands) && decide (meth.sig.returnType = rt) && !meth.locks && decide (parseMethodDescriptor y.desc = some meth.sig)) = true) : (Jvm.Cond.code y bytes mx rt).before a s = true := by
  simp only [Bool.and_eq_true, beq_iff_eq, Bool.not_eq_true', decide_eq_true_eq] at h5
  obtain ⟨⟨⟨⟨⟨g1, g2⟩, g3⟩, g4⟩, g5⟩, g6⟩ := h5
  simp [Cond.before, Cond.holds, Cond.value, h1, h2, h3, h4, g1, g2, g3, g4, g5, g6]
def isCode : Jvm.Cond → Bool
  | .code _ _ _ _ => true
  | _ => false
theorem all_split {L : List Jvm.Cond} {P : Jvm.Cond → Bool} (h1 : L.all (fun c => isCode c || P c) = true) (h2 : ∀ c ∈ L.filter isCode, P c = true) : L.all P = true := by
  refine List.all_eq_true.mpr fun c hc => ?_
  have h := List.all_eq_true.mp h1 c hc
  rcases Bool.eq_false_or_eq_true (isCode c) with hi | hi
  · exact h2 c (List.mem_filter.mpr ⟨hc, hi⟩)
  · simpa [hi] using h
set_option maxRecDepth 65536 in
theorem w_c0 : (Jvm.Cond.code x code maxLocals ret).before args0 about1 = true := code_word (m := ⟨1, 1⟩) (meth := k1m1) (c := k1c1) (by decide +kernel) rfl rfl rfl (by decide +kernel)
set_option maxRecDepth 65536 in
theorem w_c1 : (Jvm.Cond.code ({ cls := "com/example/ewig/ewig/LogRotation", name := "<init>", desc := "(II)V" } : Jvm.MethodName) prog_4_method_1_code (3 : Nat) (Option.none : Option Jvm.ClassFile.FieldType)).before args0 about1 = true := code_word (m := ⟨2, 0⟩) (meth := k2m0) (c := k2c0) (by decide +kernel) rfl rfl rfl (by decide +kernel)
set_option maxRecDepth 65536 in
theorem w_c2 : (Jvm.Cond.code ({ cls := "java/lang/Object", name := "<init>", desc := "()V" } : Jvm.MethodName) object_method_1_code (1 : Nat) (Option.none : Option Jvm.ClassFile.FieldType)).before args0 about1 = true := code_word (m := ⟨0, 0⟩) (meth := k0m0) (c := k0c0) (by decide +kernel) rfl rfl rfl (by decide +kernel)
set_option maxRecDepth 65536 in
theorem w_c3 : (Jvm.Cond.code ({ cls := "com/example/ewig/ewig/LogRotation", name := "hashCode", desc := "()I" } : Jvm.MethodName) prog_4_method_5_code (1 : Nat) (Option.some Jvm.ClassFile.FieldType.int)).before args0 about1 = true := code_word (m := ⟨2, 1⟩) (meth := k2m1) (c := k2c1) (by decide +kernel) rfl rfl rfl (by decide +kernel)
def codes1 : List Jvm.Cond := [Jvm.Cond.code x code maxLocals ret, Jvm.Cond.code ({ cls := "com/example/ewig/ewig/LogRotation", name := "<init>", desc := "(II)V" } : Jvm.MethodName) prog_4_method_1_code (3 : Nat) (Option.none : Option Jvm.ClassFile.FieldType), Jvm.Cond.code ({ cls := "java/lang/Object", name := "<init>", desc := "()V" } : Jvm.MethodName) object_method_1_code (1 : Nat) (Option.none : Option Jvm.ClassFile.FieldType), Jvm.Cond.code ({ cls := "com/example/ewig/ewig/LogRotation", name := "hashCode", desc := "()I" } : Jvm.MethodName) prog_4_method_5_code (1 : Nat) (Option.some Jvm.ClassFile.FieldType.int)]
set_option maxRecDepth 65536 in
theorem codes_eq : words1.filter isCode = codes1 := rfl
theorem w_codes : ∀ c ∈ words1.filter isCode, c.before args0 about1 = true := by
  rw [codes_eq]
  intro c hc
  simp only [codes1, List.mem_cons, List.not_mem_nil, or_false] at hc
  rcases hc with rfl | rfl | rfl | rfl
  · exact w_c0
  · exact w_c1
  · exact w_c2
  · exact w_c3
set_option maxRecDepth 65536 in
theorem w_t1 : words1.all (fun c => isCode c || c.before args0 about1) = true := by decide +kernel
theorem w_tables : (allAtoms (Jvm.Cond.code x code maxLocals ret :: tables_1)).before args0 about1 = true := by
  rw [allAtoms_all]
  show words1.all (fun c => c.before args0 about1) = true
  refine all_split ?_ w_codes
  rw [w_t1]
set_option maxRecDepth 65536 in
theorem w_case : (Jvm.Cond.and given_1 narrow_1).before args0 about1 = true := by decide +kernel
theorem w_applies : (headSpec (Jvm.Cond.code x code maxLocals ret :: tables_1) room_1).applies x e0.platform about1 = true :=
  (Spec.applies_iff w_frames).mpr ⟨w_running, w_runnable, w_alone, w_named, w_hears, w_ripe, w_room, w_tables⟩
theorem atStart : AtStart classFile x code maxLocals ret World_1 tables_1 room_1 Calls_1 rest_1 Pre_1 launch0 p0 e0 about1 theMethod args0 below0 :=
  ⟨lists_1, trivial, launch0.admits_env _ _ _, launch0.least_env, fairChoices_fair.cas, fairChoices_fair.clock, w_frames, w_args, w_heap, w_applies, trivial, trivial, w_case⟩
end start1
theorem witness_1 : WitnessClaimed_1 := ⟨start1.p0, start1.e0, start1.about1, start1.theMethod, start1.args0, start1.below0, start1.atStart⟩
end Jvm.Pilot.@@N@@
