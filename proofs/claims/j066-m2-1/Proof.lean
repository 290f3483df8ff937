import JvmDerived
import JvmDerived.Pilot.@@N@@Statement
import JvmDerived.Pilot.@@N@@Code
set_option linter.unusedVariables false
set_option linter.unusedSimpArgs false

namespace Jvm.Pilot.@@N@@
open Jvm Jvm.ClassFile Sem Op Lib Jvm.Free Jvm.Stand Jvm.LawKit Jvm.RoadKit Bundle Jvm.Pilot.@@N@@.Jvm.D


section OwnKit
variable {p : Program} {l : Launch} {e : Env} {R : Room} {s : State} {m : MethodId} {args : Array Value} {below : List Frame} {meth : Method} {c : Code} {T : State} {locs : List Loc} {cells slots : Nat} {h : Heap} {Q : Option Value → Heap → List Loc → Prop} {C S : Nat}
/-- from the state t the run comes to its end, and what it leaves answers Q -/
def own_Gl (p : Program) (e : Env) (below : List Frame) (s : State) (Q : Option Value → Heap → List Loc → Prop) (C S : Nat) (t : State) : Prop :=
  ∃ s₂ o, Steps p.tables e below t s₂ ∧ s₂.status = .running ∧ Ended s₂ below o ∧ ∃ v L, o = .returned v ∧ Q v s₂.heap L ∧ FrameEnd s o s₂ L C S
theorem own_st {t t' : State} (k : ∀ target, Steps p.tables e below t' target → Steps p.tables e below t target) (d : own_Gl p e below s Q C S t') : own_Gl p e below s Q C S t := by
  obtain ⟨s₂, o, h1, h2⟩ := d
  exact ⟨s₂, o, k _ h1, h2⟩
theorem own_tr {t t' : State} (k : Steps p.tables e below t t') (d : own_Gl p e below s Q C S t') : own_Gl p e below s Q C S t := own_st (fun _ h => k.trans h) d
theorem own_cast {g g' : JFrame} (q : g = g') (d : own_Gl p e below s Q C S (T.setTop g')) : own_Gl p e below s Q C S (T.setTop g) := q ▸ d
theorem own_ret (X : Stand p l e R s m args below meth c T locs cells slots) (hlk : meth.locks = false) {v : Option Value} {t : State} (hv : meth.sig.returnType = none → v = none) (eT : T.heap = h) (hq : Q v h locs) (hc : cells ≤ C) (hs : slots ≤ S)
    (k : ∀ fs, (∀ (f : JFrame) (acts : List Action), f.method = m → f.locked = none → f.entered = [] → (doReturn e (T.setTop f) acts v).1 = T.setFrames fs) → Steps p.tables e below t (T.setFrames fs)) : own_Gl p e below s Q C S t := by
  obtain ⟨fs, hr, hrun, hended, hW, hsame⟩ := X.leave hv hlk
  exact ⟨_, _, k fs hr, hrun, hended, v, locs, rfl, by show Q v T.heap locs; rw [eT]; exact hq, ⟨_, rfl⟩, hW, hsame.mono hc hs⟩
theorem own_retI (X : Stand p l e R s m args below meth c T locs cells slots) (hx : p.tables.exec = Jvm.exec) (hlk : meth.locks = false) {pc : Nat} {Ls : Array Slot} {z : Int32} {rest : List Value} (hret : meth.sig.returnType = some .int) (hd : decode c.code pc = .ok (.ireturn, 1)) (eT : T.heap = h) (hq : Q (some (.int z)) h locs) (hc : cells ≤ C) (hs : slots ≤ S) :
    own_Gl p e below s Q C S (T.setTop (mkF m pc Ls (.int z :: rest))) :=
  own_ret X hlk (fun q => by rw [hret] at q; cases q) eT hq hc hs (fun _ hr => retOut X hx hret rfl (Or.inl ⟨rfl, Or.inl rfl, _, rfl⟩) hd hr)
theorem own_retN (X : Stand p l e R s m args below meth c T locs cells slots) (hx : p.tables.exec = Jvm.exec) (hlk : meth.locks = false) {pc : Nat} {Ls : Array Slot} {z : Int32} {t : FieldType} {rest : List Value} (hret : meth.sig.returnType = some t) (ht : t = .boolean ∨ t = .byte ∨ t = .char ∨ t = .short) (hd : decode c.code pc = .ok (.ireturn, 1)) (eT : T.heap = h) (hq : Q (some (.int (nar t z))) h locs) (hc : cells ≤ C) (hs : slots ≤ S) :
    own_Gl p e below s Q C S (T.setTop (mkF m pc Ls (.int z :: rest))) :=
  own_ret X hlk (fun q => by rw [hret] at q; cases q) eT hq hc hs (fun _ hr => retN X hx hret ht hd hr)
theorem own_retJ (X : Stand p l e R s m args below meth c T locs cells slots) (hx : p.tables.exec = Jvm.exec) (hlk : meth.locks = false) {pc : Nat} {Ls : Array Slot} {z : Int64} {rest : List Value} (hret : meth.sig.returnType = some .long) (hd : decode c.code pc = .ok (.lreturn, 1)) (eT : T.heap = h) (hq : Q (some (.long z)) h locs) (hc : cells ≤ C) (hs : slots ≤ S) :
    own_Gl p e below s Q C S (T.setTop (mkF m pc Ls (.long z :: rest))) :=
  own_ret X hlk (fun q => by rw [hret] at q; cases q) eT hq hc hs (fun _ hr => retOut X hx hret rfl (Or.inr (Or.inl ⟨rfl, rfl, _, rfl⟩)) hd hr)
theorem own_retA (X : Stand p l e R s m args below meth c T locs cells slots) (hx : p.tables.exec = Jvm.exec) (hlk : meth.locks = false) {pc : Nat} {Ls : Array Slot} {w : Value} {t : FieldType} {rest : List Value} (hret : meth.sig.returnType = some t) (ht : t.isReference = true) (hw : w.isRef = true) (hn : narrow t w = w) (hd : decode c.code pc = .ok (.areturn, 1)) (eT : T.heap = h) (hq : Q (some w) h locs) (hc : cells ≤ C) (hs : slots ≤ S) :
    own_Gl p e below s Q C S (T.setTop (mkF m pc Ls (w :: rest))) :=
  own_ret X hlk (fun q => by rw [hret] at q; cases q) eT hq hc hs (fun _ hr => retOut X hx hret hn (Or.inr (Or.inr (Or.inr (Or.inr ⟨rfl, ht, hw⟩)))) hd hr)
theorem own_retV (X : Stand p l e R s m args below meth c T locs cells slots) (hx : p.tables.exec = Jvm.exec) (hlk : meth.locks = false) {pc : Nat} {Ls : Array Slot} (hret : meth.sig.returnType = none) (hd : decode c.code pc = .ok (.return_, 1)) (eT : T.heap = h) (hq : Q none h locs) (hc : cells ≤ C) (hs : slots ≤ S) :
    own_Gl p e below s Q C S (T.setTop (mkF m pc Ls [])) :=
  own_ret X hlk (fun _ => rfl) eT hq hc hs (fun _ hr => X.returnOut hx hret hd hr)
end OwnKit


theorem own_nn (x : Int64) : 0 ≤ (x &&& (9223372036854775807 : Int64)).toInt := by
  rw [c_maskL x _ 63 (by decide) (by decide)]; omega
theorem own_z : (0 : Int64).toInt = 0 := by decide
theorem own_rem (x l : Int64) (hl : 0 ≤ l.toInt) (h : ¬ l = (0 : Int64)) : 0 ≤ ((x &&& (9223372036854775807 : Int64)) - ((x &&& (9223372036854775807 : Int64)) / l) * l).toInt ∧ ((x &&& (9223372036854775807 : Int64)) - ((x &&& (9223372036854775807 : Int64)) / l) * l).toInt ≤ l.toInt := by
  have h0 : l.toInt ≠ 0 := fun q => h (Int64.toInt_inj.mp (q.trans own_z.symm))
  have e := (c_lrem (x &&& (9223372036854775807 : Int64)) l _ rfl).1 (own_nn x)
  rw [e]
  have h1 := Int.emod_nonneg (x &&& (9223372036854775807 : Int64)).toInt h0
  have h2 := Int.emod_lt_of_pos (x &&& (9223372036854775807 : Int64)).toInt (b := l.toInt) (by omega)
  omega
theorem own_p1 (l a : Int64) (h : 0 ≤ a.toInt ∧ a.toInt ≤ l.toInt) : ¬ (l - (0 : Int64) < a) := by
  rw [Int64.sub_zero, Int64.lt_iff_toInt_lt]; omega
theorem own_eqI {x y : Int64} (h : (x.toInt - y.toInt) % 18446744073709551616 = 0) : x = y := by
  have r1 := rng64 x; have r2 := rng64 y
  exact Int64.toInt_inj.mp (by omega)
theorem own_p2 (l a : Int64) : ¬ (l - ((0 : Int64) + a) < (l - a)) := by
  rw [Int64.zero_add]; exact Int64.lt_irrefl
theorem own_p3 (l a : Int64) : ¬ (l - (((0 : Int64) + a) + (l - a)) < (0 : Int64)) := by
  have : l - (((0 : Int64) + a) + (l - a)) = 0 := by
    apply own_eqI
    have e1 := c_ladd (0 : Int64) a; have e2 := c_lsub l a; have e3 := c_ladd ((0 : Int64) + a) (l - a); have e4 := c_lsub l (((0 : Int64) + a) + (l - a)); have e0 := own_z
    omega
  rw [this]; exact Int64.lt_irrefl
theorem own_p4 (l a c : Int64) : ¬ (l - (((((0 : Int64) + a) + (l - a)) + (0 : Int64)) - c) < c) := by
  have : l - (((((0 : Int64) + a) + (l - a)) + (0 : Int64)) - c) = c := by
    apply own_eqI
    have e1 := c_ladd (0 : Int64) a; have e2 := c_lsub l a; have e3 := c_ladd ((0 : Int64) + a) (l - a); have e4 := c_ladd (((0 : Int64) + a) + (l - a)) (0 : Int64); have e5 := c_lsub ((((0 : Int64) + a) + (l - a)) + (0 : Int64)) c; have e6 := c_lsub l (((((0 : Int64) + a) + (l - a)) + (0 : Int64)) - c); have e0 := own_z
    omega
  rw [this]; exact Int64.lt_irrefl

theorem own_d_prog_29_method_1_code_0 : decode prog_29_method_1_code 0 = .ok (.aload_n 0, 1) := by decide +kernel
theorem own_d_prog_29_method_1_code_1 : decode prog_29_method_1_code 1 = .ok (.invokespecial 1, 3) := by decide +kernel
theorem own_d_prog_29_method_1_code_4 : decode prog_29_method_1_code 4 = .ok (.aload_n 0, 1) := by decide +kernel
theorem own_d_prog_29_method_1_code_5 : decode prog_29_method_1_code 5 = .ok (.lload_n 1, 1) := by decide +kernel
theorem own_d_prog_29_method_1_code_6 : decode prog_29_method_1_code 6 = .ok (.putfield 7, 3) := by decide +kernel
theorem own_d_prog_29_method_1_code_9 : decode prog_29_method_1_code 9 = .ok (.return_, 1) := by decide +kernel
theorem own_ef_own_init (m : MethodId) (x0 : Addr) (x1 : Int64) : entryFrame m #[(.ref x0), (.long x1)] 3 = mkF m 0 #[.val (.ref x0), .val (.long x1), .second] [] := by first | (simp [entryFrame, mkF, argsToLocals, Value.category]; done) | rfl
def own_Q_own_init (Z : State) (a : Addr) (q1 : Int64) (h0 : Heap) (n0 : Nat) (v : Option Value) (h : Heap) (L : List Loc) : Prop := (v = none) ∧ (Fr n0 L) ∧ (Keep h0 h [a]) ∧ (Fld Z h a "com/example/dessin/dessin/MemoryBudget" "limit" "J" (.long q1)) ∧ (Fld Z h a "com/example/dessin/dessin/MemoryBudget" "taken" "J" (.long (0 : Int64)))
theorem own_pn748084291 : plainName "com/example/dessin/dessin/MemoryBudget" = true := by first | (simp [plainName, overriddenIn]; done) | decide +kernel
set_option maxRecDepth 65536 in
set_option maxHeartbeats 40000000 in
theorem own_init (l : Launch) (Z : State) (a0 : Array Value) (hw : ∀ d ∈ tables_1, d.before a0 Z = true) (ws : List Jvm.Cond) (a : Addr) (q1 : Int64) (h0 : Heap) (n0 : Nat) (Z0 : n0 ≤ h0.size) (E_a : Exa Z h0 a "com/example/dessin/dessin/MemoryBudget") (F_a_limit : Fld Z h0 a "com/example/dessin/dessin/MemoryBudget" "limit" "J" (.long (0 : Int64))) (F_a_taken : Fld Z h0 a "com/example/dessin/dessin/MemoryBudget" "taken" "J" (.long (0 : Int64))) (g_a : n0 ≤ a) :
    MetFree l (⟨"com/example/dessin/dessin/MemoryBudget", "<init>", "(J)V"⟩ : MethodName) (head1 (Jvm.Cond.code (⟨"com/example/dessin/dessin/MemoryBudget", "<init>", "(J)V"⟩ : MethodName) prog_29_method_1_code 3 none :: ws) ({ frames := 1, cells := 0, slots := 0, locals := 12 } : Room)) (fun xa xU => xa = #[(.ref a), (.long q1)] ∧ Z.Warmed39 xU.vm ∧ xU.heap = h0) (fun _ _ _ _ _ => True) (fun _ xU xo xV => ∃ v L, xo = .returned v ∧ own_Q_own_init Z a q1 h0 n0 v xV.heap L ∧ FrameEnd xU xo xV L ({ frames := 1, cells := 0, slots := 0, locals := 12 } : Room).cells ({ frames := 1, cells := 0, slots := 0, locals := 12 } : Room).slots) := by
  refine MetFree.of_bodySF (plainFor_of_name own_pn748084291) hisR ?_
  intro p e s m args below meth c s₁ Bd hml0 hP hK
  obtain ⟨rfl, hZ, hh⟩ := hP
  have hx := Bd.exec
  have hby := Bd.bytes
  have hlk := Bd.notSynchronized
  have hret := Bd.returns
  have hml : c.maxLocals = 3 := hml0
  have hown : s.vm.findClass "com/example/dessin/dessin/MemoryBudget" = some m.cls := findClass_of_methodNamed Bd.named
  have hnm := (name_of_methodNamed Bd.named Bd.method).1
  have X0 : Stand p l e ({ frames := 1, cells := 0, slots := 0, locals := 12 } : Room) s m #[(.ref a), (.long q1)] below meth c s₁ [] 0 0 := Stand.of_body Bd
  have e0 : s₁.heap = h0 := by rw [← hh, Bd.state]; rfl
  have N0 := Fr.nil n0
  show own_Gl p e below s (own_Q_own_init Z a q1 h0 n0) ({ frames := 1, cells := 0, slots := 0, locals := 12 } : Room).cells ({ frames := 1, cells := 0, slots := 0, locals := 12 } : Room).slots _
  refine own_cast (own_ef_own_init m a q1) ?_
  show own_Gl _ _ _ _ _ _ _ (s₁.setTop (mkF m 0 #[.val (.ref a), .val (.long q1), .second] []))
  refine own_st (fun _ k => XS.aloadN X0.here hx rfl (hb hby own_d_prog_29_method_1_code_0) rfl rfl k) ?_
  show own_Gl _ _ _ _ _ _ _ (s₁.setTop (mkF m 1 #[.val (.ref a), .val (.long q1), .second] [(.ref a)]))
  obtain ⟨T1, X1, e1, st1⟩ := initO X0 hx hZ hown (hw _ (List.mem_of_getElem? (i := 7) rfl)) (hw _ (List.mem_of_getElem? (i := 8) rfl)) (hw _ (List.mem_of_getElem? (i := 9) rfl)) e0 (g := (mkF m 1 #[.val (.ref a), .val (.long q1), .second] [(.ref a)])) rfl (by rw [hml]; rfl) rfl (hb hby own_d_prog_29_method_1_code_1) (by decide) (W := 0) (by show 2 * 0 + _ ≤ _; exact Nat.le_of_eq rfl) (by decide)
  refine own_st st1 ?_
  show own_Gl _ _ _ _ _ _ _ (T1.setTop (mkF m 4 #[.val (.ref a), .val (.long q1), .second] []))
  refine own_st (fun _ k => XS.aloadN X1.here hx rfl (hb hby own_d_prog_29_method_1_code_4) rfl rfl k) ?_
  show own_Gl _ _ _ _ _ _ _ (T1.setTop (mkF m 5 #[.val (.ref a), .val (.long q1), .second] [(.ref a)]))
  refine own_st (fun _ k => XS.lloadN X1.here hx rfl (hb hby own_d_prog_29_method_1_code_5) rfl k) ?_
  show own_Gl _ _ _ _ _ _ _ (T1.setTop (mkF m 6 #[.val (.ref a), .val (.long q1), .second] [(.long q1), (.ref a)]))
  obtain ⟨T2, h2, X2, e2, W2, st2⟩ := putF X1 hx hZ hown (host := "") (Or.inl (hw _ (List.mem_of_getElem? (i := 10) rfl))) Via.refl e1 F_a_limit E_a (Or.inr ⟨(hw _ (List.mem_of_getElem? (i := 11) rfl)), rfl, hnm⟩) (hw _ (List.mem_of_getElem? (i := 2) rfl)) (ty := .long) (by decide) rfl rfl (g := (mkF m 6 #[.val (.ref a), .val (.long q1), .second] [(.long q1), (.ref a)])) rfl rfl (hb hby own_d_prog_29_method_1_code_6)
  have N2 := Fr.snoc X2 N0 g_a
  refine own_st st2 ?_
  have Zs3 : n0 ≤ h2.size := Nat.le_trans Z0 (Keep.of_wr W2).1
  have Fw2 := F_a_limit.same W2
  show own_Gl _ _ _ _ _ _ _ (T2.setTop (mkF m 9 #[.val (.ref a), .val (.long q1), .second] []))
  have K4 : Keep h0 h2 [a] := ((Keep.refl h0 [a]).wr W2 (Or.inl (List.mem_of_getElem? (i := 0) rfl)))
  have f5 := (F_a_taken.other W2 (Or.inr (slot_ne (Or.inl (hw _ (List.mem_of_getElem? (i := 18) rfl))) (Or.inr (hw _ (List.mem_of_getElem? (i := 11) rfl))) (by decide) (t := .long) (t' := .long) (by decide) (by decide))))
  exact own_retV X2 hx hlk hret (hb hby own_d_prog_29_method_1_code_9) e2 ⟨rfl, N2, K4, Fw2, f5⟩ (by decide) (by decide)
theorem own_d_prog_29_method_2_code_0 : decode prog_29_method_2_code 0 = .ok (.lload_n 1, 1) := by decide +kernel
theorem own_d_prog_29_method_2_code_1 : decode prog_29_method_2_code 1 = .ok (.aload_n 0, 1) := by decide +kernel
theorem own_d_prog_29_method_2_code_2 : decode prog_29_method_2_code 2 = .ok (.getfield 7, 3) := by decide +kernel
theorem own_d_prog_29_method_2_code_5 : decode prog_29_method_2_code 5 = .ok (.aload_n 0, 1) := by decide +kernel
theorem own_d_prog_29_method_2_code_6 : decode prog_29_method_2_code 6 = .ok (.getfield 13, 3) := by decide +kernel
theorem own_d_prog_29_method_2_code_9 : decode prog_29_method_2_code 9 = .ok (.lsub, 1) := by decide +kernel
theorem own_d_prog_29_method_2_code_10 : decode prog_29_method_2_code 10 = .ok (.lcmp, 1) := by decide +kernel
theorem own_d_prog_29_method_2_code_11 : decode prog_29_method_2_code 11 = .ok (.ifCond .le 11, 3) := by decide +kernel
theorem own_d_prog_29_method_2_code_22 : decode prog_29_method_2_code 22 = .ok (.aload_n 0, 1) := by decide +kernel
theorem own_d_prog_29_method_2_code_23 : decode prog_29_method_2_code 23 = .ok (.dup, 1) := by decide +kernel
theorem own_d_prog_29_method_2_code_24 : decode prog_29_method_2_code 24 = .ok (.getfield 13, 3) := by decide +kernel
theorem own_d_prog_29_method_2_code_27 : decode prog_29_method_2_code 27 = .ok (.lload_n 1, 1) := by decide +kernel
theorem own_d_prog_29_method_2_code_28 : decode prog_29_method_2_code 28 = .ok (.ladd, 1) := by decide +kernel
theorem own_d_prog_29_method_2_code_29 : decode prog_29_method_2_code 29 = .ok (.putfield 13, 3) := by decide +kernel
theorem own_d_prog_29_method_2_code_32 : decode prog_29_method_2_code 32 = .ok (.return_, 1) := by decide +kernel
theorem own_ef_own_take (m : MethodId) (x0 : Addr) (x1 : Int64) : entryFrame m #[(.ref x0), (.long x1)] 3 = mkF m 0 #[.val (.ref x0), .val (.long x1), .second] [] := by first | (simp [entryFrame, mkF, argsToLocals, Value.category]; done) | rfl
def own_Q_own_take (Z : State) (a : Addr) (q1 : Int64) (ql : Int64) (qt : Int64) (h0 : Heap) (n0 : Nat) (v : Option Value) (h : Heap) (L : List Loc) : Prop := (v = none) ∧ (Fr n0 L) ∧ (Keep h0 h [a]) ∧ (Fld Z h a "com/example/dessin/dessin/MemoryBudget" "limit" "J" (.long ql)) ∧ (Fld Z h a "com/example/dessin/dessin/MemoryBudget" "taken" "J" (.long (qt + q1)))
set_option maxRecDepth 65536 in
set_option maxHeartbeats 40000000 in
theorem own_take (l : Launch) (Z : State) (a0 : Array Value) (hw : ∀ d ∈ tables_1, d.before a0 Z = true) (ws : List Jvm.Cond) (a : Addr) (q1 : Int64) (ql : Int64) (qt : Int64) (h0 : Heap) (n0 : Nat) (Z0 : n0 ≤ h0.size) (E_a : Exa Z h0 a "com/example/dessin/dessin/MemoryBudget") (F_a_limit : Fld Z h0 a "com/example/dessin/dessin/MemoryBudget" "limit" "J" (.long ql)) (F_a_taken : Fld Z h0 a "com/example/dessin/dessin/MemoryBudget" "taken" "J" (.long qt)) (g_a : n0 ≤ a) (hok : ¬ (ql - qt < q1)) :
    MetFree l (⟨"com/example/dessin/dessin/MemoryBudget", "take", "(J)V"⟩ : MethodName) (head1 (Jvm.Cond.code (⟨"com/example/dessin/dessin/MemoryBudget", "take", "(J)V"⟩ : MethodName) prog_29_method_2_code 3 none :: ws) ({ frames := 0, cells := 0, slots := 0, locals := 0 } : Room)) (fun xa xU => xa = #[(.ref a), (.long q1)] ∧ Z.Warmed39 xU.vm ∧ xU.heap = h0) (fun _ _ _ _ _ => True) (fun _ xU xo xV => ∃ v L, xo = .returned v ∧ own_Q_own_take Z a q1 ql qt h0 n0 v xV.heap L ∧ FrameEnd xU xo xV L ({ frames := 0, cells := 0, slots := 0, locals := 0 } : Room).cells ({ frames := 0, cells := 0, slots := 0, locals := 0 } : Room).slots) := by
  refine MetFree.of_bodySF (plainFor_of_name own_pn748084291) hisR ?_
  intro p e s m args below meth c s₁ Bd hml0 hP hK
  obtain ⟨rfl, hZ, hh⟩ := hP
  have hx := Bd.exec
  have hby := Bd.bytes
  have hlk := Bd.notSynchronized
  have hret := Bd.returns
  have hml : c.maxLocals = 3 := hml0
  have hown : s.vm.findClass "com/example/dessin/dessin/MemoryBudget" = some m.cls := findClass_of_methodNamed Bd.named
  have hnm := (name_of_methodNamed Bd.named Bd.method).1
  have X0 : Stand p l e ({ frames := 0, cells := 0, slots := 0, locals := 0 } : Room) s m #[(.ref a), (.long q1)] below meth c s₁ [] 0 0 := Stand.of_body Bd
  have e0 : s₁.heap = h0 := by rw [← hh, Bd.state]; rfl
  have N0 := Fr.nil n0
  show own_Gl p e below s (own_Q_own_take Z a q1 ql qt h0 n0) ({ frames := 0, cells := 0, slots := 0, locals := 0 } : Room).cells ({ frames := 0, cells := 0, slots := 0, locals := 0 } : Room).slots _
  refine own_cast (own_ef_own_take m a q1) ?_
  show own_Gl _ _ _ _ _ _ _ (s₁.setTop (mkF m 0 #[.val (.ref a), .val (.long q1), .second] []))
  refine own_st (fun _ k => XS.lloadN X0.here hx rfl (hb hby own_d_prog_29_method_2_code_0) rfl k) ?_
  show own_Gl _ _ _ _ _ _ _ (s₁.setTop (mkF m 1 #[.val (.ref a), .val (.long q1), .second] [(.long q1)]))
  refine own_st (fun _ k => XS.aloadN X0.here hx rfl (hb hby own_d_prog_29_method_2_code_1) rfl rfl k) ?_
  show own_Gl _ _ _ _ _ _ _ (s₁.setTop (mkF m 2 #[.val (.ref a), .val (.long q1), .second] [(.ref a), (.long q1)]))
  obtain ⟨T1, X1, e1, st1⟩ := getF X0 hx hZ hown (host := "") (Or.inl (hw _ (List.mem_of_getElem? (i := 10) rfl))) Via.refl e0 F_a_limit (g := (mkF m 2 #[.val (.ref a), .val (.long q1), .second] [(.ref a), (.long q1)])) rfl rfl (hb hby own_d_prog_29_method_2_code_2)
  refine own_st st1 ?_
  show own_Gl _ _ _ _ _ _ _ (T1.setTop (mkF m 5 #[.val (.ref a), .val (.long q1), .second] [(.long ql), (.long q1)]))
  refine own_st (fun _ k => XS.aloadN X1.here hx rfl (hb hby own_d_prog_29_method_2_code_5) rfl rfl k) ?_
  show own_Gl _ _ _ _ _ _ _ (T1.setTop (mkF m 6 #[.val (.ref a), .val (.long q1), .second] [(.ref a), (.long ql), (.long q1)]))
  obtain ⟨T2, X2, e2, st2⟩ := getF X1 hx hZ hown (host := "") (Or.inl (hw _ (List.mem_of_getElem? (i := 17) rfl))) Via.refl e1 F_a_taken (g := (mkF m 6 #[.val (.ref a), .val (.long q1), .second] [(.ref a), (.long ql), (.long q1)])) rfl rfl (hb hby own_d_prog_29_method_2_code_6)
  refine own_st st2 ?_
  show own_Gl _ _ _ _ _ _ _ (T2.setTop (mkF m 9 #[.val (.ref a), .val (.long q1), .second] [(.long qt), (.long ql), (.long q1)]))
  refine own_st (fun _ k => XS.lsub X2.here hx rfl (hb hby own_d_prog_29_method_2_code_9) rfl k) ?_
  show own_Gl _ _ _ _ _ _ _ (T2.setTop (mkF m 10 #[.val (.ref a), .val (.long q1), .second] [(.long (ql - qt)), (.long q1)]))
  refine own_st (fun _ k => XS.lcmp X2.here hx rfl (hb hby own_d_prog_29_method_2_code_10) rfl k) ?_
  show own_Gl _ _ _ _ _ _ _ (T2.setTop (mkF m 11 #[.val (.ref a), .val (.long q1), .second] [(.int (lcmpW q1 (ql - qt)))]))
  have hd3 : ¬ ((ql - qt) < q1) := hok
  refine own_st (fun _ k => XS.ifYes X2.here hx rfl (pc0 := 11) (pc' := 22) rfl (hb hby own_d_prog_29_method_2_code_11) rfl ((if0 _ _).trans (flt (mt (lw_gt _ _).mp hd3)).2.2.2) (by decide) (by decide) k) ?_
  show own_Gl _ _ _ _ _ _ _ (T2.setTop (mkF m 22 #[.val (.ref a), .val (.long q1), .second] []))
  refine own_st (fun _ k => XS.aloadN X2.here hx rfl (hb hby own_d_prog_29_method_2_code_22) rfl rfl k) ?_
  show own_Gl _ _ _ _ _ _ _ (T2.setTop (mkF m 23 #[.val (.ref a), .val (.long q1), .second] [(.ref a)]))
  refine own_st (fun _ k => XS.dup X2.here hx rfl (hb hby own_d_prog_29_method_2_code_23) rfl rfl k) ?_
  show own_Gl _ _ _ _ _ _ _ (T2.setTop (mkF m 24 #[.val (.ref a), .val (.long q1), .second] [(.ref a), (.ref a)]))
  obtain ⟨T4, X4, e4, st4⟩ := getF X2 hx hZ hown (host := "") (Or.inl (hw _ (List.mem_of_getElem? (i := 17) rfl))) Via.refl e2 F_a_taken (g := (mkF m 24 #[.val (.ref a), .val (.long q1), .second] [(.ref a), (.ref a)])) rfl rfl (hb hby own_d_prog_29_method_2_code_24)
  refine own_st st4 ?_
  show own_Gl _ _ _ _ _ _ _ (T4.setTop (mkF m 27 #[.val (.ref a), .val (.long q1), .second] [(.long qt), (.ref a)]))
  refine own_st (fun _ k => XS.lloadN X4.here hx rfl (hb hby own_d_prog_29_method_2_code_27) rfl k) ?_
  show own_Gl _ _ _ _ _ _ _ (T4.setTop (mkF m 28 #[.val (.ref a), .val (.long q1), .second] [(.long q1), (.long qt), (.ref a)]))
  refine own_st (fun _ k => XS.ladd X4.here hx rfl (hb hby own_d_prog_29_method_2_code_28) rfl k) ?_
  show own_Gl _ _ _ _ _ _ _ (T4.setTop (mkF m 29 #[.val (.ref a), .val (.long q1), .second] [(.long (qt + q1)), (.ref a)]))
  obtain ⟨T5, h5, X5, e5, W5, st5⟩ := putF X4 hx hZ hown (host := "") (Or.inl (hw _ (List.mem_of_getElem? (i := 17) rfl))) Via.refl e4 F_a_taken E_a (Or.inl (hw _ (List.mem_of_getElem? (i := 18) rfl))) (hw _ (List.mem_of_getElem? (i := 2) rfl)) (ty := .long) (by decide) rfl rfl (g := (mkF m 29 #[.val (.ref a), .val (.long q1), .second] [(.long (qt + q1)), (.ref a)])) rfl rfl (hb hby own_d_prog_29_method_2_code_29)
  have N5 := Fr.snoc X5 N0 g_a
  refine own_st st5 ?_
  have Zs6 : n0 ≤ h5.size := Nat.le_trans Z0 (Keep.of_wr W5).1
  have Fw5 := F_a_taken.same W5
  show own_Gl _ _ _ _ _ _ _ (T5.setTop (mkF m 32 #[.val (.ref a), .val (.long q1), .second] []))
  have K7 : Keep h0 h5 [a] := ((Keep.refl h0 [a]).wr W5 (Or.inl (List.mem_of_getElem? (i := 0) rfl)))
  have f8 := (F_a_limit.other W5 (Or.inr (slot_ne (Or.inr (hw _ (List.mem_of_getElem? (i := 11) rfl))) (Or.inl (hw _ (List.mem_of_getElem? (i := 18) rfl))) (by decide) (t := .long) (t' := .long) (by decide) (by decide))))
  exact own_retV X5 hx hlk hret (hb hby own_d_prog_29_method_2_code_32) e5 ⟨rfl, N5, K7, f8, Fw5⟩ (by decide) (by decide)
theorem own_d_prog_29_method_3_code_0 : decode prog_29_method_3_code 0 = .ok (.aload_n 0, 1) := by decide +kernel
theorem own_d_prog_29_method_3_code_1 : decode prog_29_method_3_code 1 = .ok (.dup, 1) := by decide +kernel
theorem own_d_prog_29_method_3_code_2 : decode prog_29_method_3_code 2 = .ok (.getfield 13, 3) := by decide +kernel
theorem own_d_prog_29_method_3_code_5 : decode prog_29_method_3_code 5 = .ok (.lload_n 1, 1) := by decide +kernel
theorem own_d_prog_29_method_3_code_6 : decode prog_29_method_3_code 6 = .ok (.lsub, 1) := by decide +kernel
theorem own_d_prog_29_method_3_code_7 : decode prog_29_method_3_code 7 = .ok (.putfield 13, 3) := by decide +kernel
theorem own_d_prog_29_method_3_code_10 : decode prog_29_method_3_code 10 = .ok (.return_, 1) := by decide +kernel
theorem own_ef_own_give (m : MethodId) (x0 : Addr) (x1 : Int64) : entryFrame m #[(.ref x0), (.long x1)] 3 = mkF m 0 #[.val (.ref x0), .val (.long x1), .second] [] := by first | (simp [entryFrame, mkF, argsToLocals, Value.category]; done) | rfl
def own_Q_own_give (Z : State) (a : Addr) (q1 : Int64) (ql : Int64) (qt : Int64) (h0 : Heap) (n0 : Nat) (v : Option Value) (h : Heap) (L : List Loc) : Prop := (v = none) ∧ (Fr n0 L) ∧ (Keep h0 h [a]) ∧ (Fld Z h a "com/example/dessin/dessin/MemoryBudget" "limit" "J" (.long ql)) ∧ (Fld Z h a "com/example/dessin/dessin/MemoryBudget" "taken" "J" (.long (qt - q1)))
set_option maxRecDepth 65536 in
set_option maxHeartbeats 40000000 in
theorem own_give (l : Launch) (Z : State) (a0 : Array Value) (hw : ∀ d ∈ tables_1, d.before a0 Z = true) (ws : List Jvm.Cond) (a : Addr) (q1 : Int64) (ql : Int64) (qt : Int64) (h0 : Heap) (n0 : Nat) (Z0 : n0 ≤ h0.size) (E_a : Exa Z h0 a "com/example/dessin/dessin/MemoryBudget") (F_a_limit : Fld Z h0 a "com/example/dessin/dessin/MemoryBudget" "limit" "J" (.long ql)) (F_a_taken : Fld Z h0 a "com/example/dessin/dessin/MemoryBudget" "taken" "J" (.long qt)) (g_a : n0 ≤ a) :
    MetFree l (⟨"com/example/dessin/dessin/MemoryBudget", "giveBack", "(J)V"⟩ : MethodName) (head1 (Jvm.Cond.code (⟨"com/example/dessin/dessin/MemoryBudget", "giveBack", "(J)V"⟩ : MethodName) prog_29_method_3_code 3 none :: ws) ({ frames := 0, cells := 0, slots := 0, locals := 0 } : Room)) (fun xa xU => xa = #[(.ref a), (.long q1)] ∧ Z.Warmed39 xU.vm ∧ xU.heap = h0) (fun _ _ _ _ _ => True) (fun _ xU xo xV => ∃ v L, xo = .returned v ∧ own_Q_own_give Z a q1 ql qt h0 n0 v xV.heap L ∧ FrameEnd xU xo xV L ({ frames := 0, cells := 0, slots := 0, locals := 0 } : Room).cells ({ frames := 0, cells := 0, slots := 0, locals := 0 } : Room).slots) := by
  refine MetFree.of_bodySF (plainFor_of_name own_pn748084291) hisR ?_
  intro p e s m args below meth c s₁ Bd hml0 hP hK
  obtain ⟨rfl, hZ, hh⟩ := hP
  have hx := Bd.exec
  have hby := Bd.bytes
  have hlk := Bd.notSynchronized
  have hret := Bd.returns
  have hml : c.maxLocals = 3 := hml0
  have hown : s.vm.findClass "com/example/dessin/dessin/MemoryBudget" = some m.cls := findClass_of_methodNamed Bd.named
  have hnm := (name_of_methodNamed Bd.named Bd.method).1
  have X0 : Stand p l e ({ frames := 0, cells := 0, slots := 0, locals := 0 } : Room) s m #[(.ref a), (.long q1)] below meth c s₁ [] 0 0 := Stand.of_body Bd
  have e0 : s₁.heap = h0 := by rw [← hh, Bd.state]; rfl
  have N0 := Fr.nil n0
  show own_Gl p e below s (own_Q_own_give Z a q1 ql qt h0 n0) ({ frames := 0, cells := 0, slots := 0, locals := 0 } : Room).cells ({ frames := 0, cells := 0, slots := 0, locals := 0 } : Room).slots _
  refine own_cast (own_ef_own_give m a q1) ?_
  show own_Gl _ _ _ _ _ _ _ (s₁.setTop (mkF m 0 #[.val (.ref a), .val (.long q1), .second] []))
  refine own_st (fun _ k => XS.aloadN X0.here hx rfl (hb hby own_d_prog_29_method_3_code_0) rfl rfl k) ?_
  show own_Gl _ _ _ _ _ _ _ (s₁.setTop (mkF m 1 #[.val (.ref a), .val (.long q1), .second] [(.ref a)]))
  refine own_st (fun _ k => XS.dup X0.here hx rfl (hb hby own_d_prog_29_method_3_code_1) rfl rfl k) ?_
  show own_Gl _ _ _ _ _ _ _ (s₁.setTop (mkF m 2 #[.val (.ref a), .val (.long q1), .second] [(.ref a), (.ref a)]))
  obtain ⟨T1, X1, e1, st1⟩ := getF X0 hx hZ hown (host := "") (Or.inl (hw _ (List.mem_of_getElem? (i := 17) rfl))) Via.refl e0 F_a_taken (g := (mkF m 2 #[.val (.ref a), .val (.long q1), .second] [(.ref a), (.ref a)])) rfl rfl (hb hby own_d_prog_29_method_3_code_2)
  refine own_st st1 ?_
  show own_Gl _ _ _ _ _ _ _ (T1.setTop (mkF m 5 #[.val (.ref a), .val (.long q1), .second] [(.long qt), (.ref a)]))
  refine own_st (fun _ k => XS.lloadN X1.here hx rfl (hb hby own_d_prog_29_method_3_code_5) rfl k) ?_
  show own_Gl _ _ _ _ _ _ _ (T1.setTop (mkF m 6 #[.val (.ref a), .val (.long q1), .second] [(.long q1), (.long qt), (.ref a)]))
  refine own_st (fun _ k => XS.lsub X1.here hx rfl (hb hby own_d_prog_29_method_3_code_6) rfl k) ?_
  show own_Gl _ _ _ _ _ _ _ (T1.setTop (mkF m 7 #[.val (.ref a), .val (.long q1), .second] [(.long (qt - q1)), (.ref a)]))
  obtain ⟨T2, h2, X2, e2, W2, st2⟩ := putF X1 hx hZ hown (host := "") (Or.inl (hw _ (List.mem_of_getElem? (i := 17) rfl))) Via.refl e1 F_a_taken E_a (Or.inl (hw _ (List.mem_of_getElem? (i := 18) rfl))) (hw _ (List.mem_of_getElem? (i := 2) rfl)) (ty := .long) (by decide) rfl rfl (g := (mkF m 7 #[.val (.ref a), .val (.long q1), .second] [(.long (qt - q1)), (.ref a)])) rfl rfl (hb hby own_d_prog_29_method_3_code_7)
  have N2 := Fr.snoc X2 N0 g_a
  refine own_st st2 ?_
  have Zs3 : n0 ≤ h2.size := Nat.le_trans Z0 (Keep.of_wr W2).1
  have Fw2 := F_a_taken.same W2
  show own_Gl _ _ _ _ _ _ _ (T2.setTop (mkF m 10 #[.val (.ref a), .val (.long q1), .second] []))
  have K4 : Keep h0 h2 [a] := ((Keep.refl h0 [a]).wr W2 (Or.inl (List.mem_of_getElem? (i := 0) rfl)))
  have f5 := (F_a_limit.other W2 (Or.inr (slot_ne (Or.inr (hw _ (List.mem_of_getElem? (i := 11) rfl))) (Or.inl (hw _ (List.mem_of_getElem? (i := 18) rfl))) (by decide) (t := .long) (t' := .long) (by decide) (by decide))))
  exact own_retV X2 hx hlk hret (hb hby own_d_prog_29_method_3_code_10) e2 ⟨rfl, N2, K4, f5, Fw2⟩ (by decide) (by decide)
theorem own_d_prog_29_method_4_code_0 : decode prog_29_method_4_code 0 = .ok (.aload_n 0, 1) := by decide +kernel
theorem own_d_prog_29_method_4_code_1 : decode prog_29_method_4_code 1 = .ok (.getfield 7, 3) := by decide +kernel
theorem own_d_prog_29_method_4_code_4 : decode prog_29_method_4_code 4 = .ok (.lreturn, 1) := by decide +kernel
theorem own_ef_own_limit (m : MethodId) (x0 : Addr) : entryFrame m #[(.ref x0)] 1 = mkF m 0 #[.val (.ref x0)] [] := by first | (simp [entryFrame, mkF, argsToLocals, Value.category]; done) | rfl
def own_Q_own_limit (Z : State) (a : Addr) (ql : Int64) (h0 : Heap) (n0 : Nat) (v : Option Value) (h : Heap) (L : List Loc) : Prop := (v = some (.long ql)) ∧ (Fr n0 L) ∧ (h = h0)
set_option maxRecDepth 65536 in
set_option maxHeartbeats 40000000 in
theorem own_limit (l : Launch) (Z : State) (a0 : Array Value) (hw : ∀ d ∈ tables_1, d.before a0 Z = true) (ws : List Jvm.Cond) (a : Addr) (ql : Int64) (h0 : Heap) (n0 : Nat) (Z0 : n0 ≤ h0.size) (F_a_limit : Fld Z h0 a "com/example/dessin/dessin/MemoryBudget" "limit" "J" (.long ql)) :
    MetFree l (⟨"com/example/dessin/dessin/MemoryBudget", "limit", "()J"⟩ : MethodName) (head1 (Jvm.Cond.code (⟨"com/example/dessin/dessin/MemoryBudget", "limit", "()J"⟩ : MethodName) prog_29_method_4_code 1 (some .long) :: ws) ({ frames := 0, cells := 0, slots := 0, locals := 0 } : Room)) (fun xa xU => xa = #[(.ref a)] ∧ Z.Warmed39 xU.vm ∧ xU.heap = h0) (fun _ _ _ _ _ => True) (fun _ xU xo xV => ∃ v L, xo = .returned v ∧ own_Q_own_limit Z a ql h0 n0 v xV.heap L ∧ FrameEnd xU xo xV L ({ frames := 0, cells := 0, slots := 0, locals := 0 } : Room).cells ({ frames := 0, cells := 0, slots := 0, locals := 0 } : Room).slots) := by
  refine MetFree.of_bodySF (plainFor_of_name own_pn748084291) hisR ?_
  intro p e s m args below meth c s₁ Bd hml0 hP hK
  obtain ⟨rfl, hZ, hh⟩ := hP
  have hx := Bd.exec
  have hby := Bd.bytes
  have hlk := Bd.notSynchronized
  have hret := Bd.returns
  have hml : c.maxLocals = 1 := hml0
  have hown : s.vm.findClass "com/example/dessin/dessin/MemoryBudget" = some m.cls := findClass_of_methodNamed Bd.named
  have hnm := (name_of_methodNamed Bd.named Bd.method).1
  have X0 : Stand p l e ({ frames := 0, cells := 0, slots := 0, locals := 0 } : Room) s m #[(.ref a)] below meth c s₁ [] 0 0 := Stand.of_body Bd
  have e0 : s₁.heap = h0 := by rw [← hh, Bd.state]; rfl
  have N0 := Fr.nil n0
  show own_Gl p e below s (own_Q_own_limit Z a ql h0 n0) ({ frames := 0, cells := 0, slots := 0, locals := 0 } : Room).cells ({ frames := 0, cells := 0, slots := 0, locals := 0 } : Room).slots _
  refine own_cast (own_ef_own_limit m a) ?_
  show own_Gl _ _ _ _ _ _ _ (s₁.setTop (mkF m 0 #[.val (.ref a)] []))
  refine own_st (fun _ k => XS.aloadN X0.here hx rfl (hb hby own_d_prog_29_method_4_code_0) rfl rfl k) ?_
  show own_Gl _ _ _ _ _ _ _ (s₁.setTop (mkF m 1 #[.val (.ref a)] [(.ref a)]))
  obtain ⟨T1, X1, e1, st1⟩ := getF X0 hx hZ hown (host := "") (Or.inl (hw _ (List.mem_of_getElem? (i := 10) rfl))) Via.refl e0 F_a_limit (g := (mkF m 1 #[.val (.ref a)] [(.ref a)])) rfl rfl (hb hby own_d_prog_29_method_4_code_1)
  refine own_st st1 ?_
  show own_Gl _ _ _ _ _ _ _ (T1.setTop (mkF m 4 #[.val (.ref a)] [(.long ql)]))
  exact own_retJ X1 hx hlk hret (hb hby own_d_prog_29_method_4_code_4) e1 ⟨rfl, N0, rfl⟩ (by decide) (by decide)
theorem own_pd91199011 : parseMethodDescriptor "(J)V" = some ⟨[.long], none⟩ := by decide +kernel
theorem own_pd691885 : parseMethodDescriptor "()J" = some ⟨[], some .long⟩ := by decide +kernel
theorem own_ef_own_law (m : MethodId) (x0 : Int64) (x1 : Int64) (x2 : Int64) (x3 : Int32) : entryFrame m #[(.long x0), (.long x1), (.long x2), (.int x3)] maxLocals = mkF m 0 #[.val (.long x0), .second, .val (.long x1), .second, .val (.long x2), .second, .val (.int x3), .unset, .unset, .unset, .unset, .unset, .unset, .unset, .unset, .unset] [] := by first | (simp [entryFrame, mkF, argsToLocals, Value.category, maxLocals]; done) | rfl
def own_Q_own_law (Z : State) (q1 : Int64) (q2 : Int64) (q3 : Int64) (p4 : Int32) (h0 : Heap) (n0 : Nat) (v : Option Value) (h : Heap) (L : List Loc) : Prop := v = some (.int 1) ∧ Fr n0 L
theorem own_pn676497542 : plainName "com/example/dessin/dessin/MemoryBudgetTakePinLaw" = true := by first | (simp [plainName, overriddenIn]; done) | decide +kernel
set_option maxRecDepth 65536 in
set_option maxHeartbeats 40000000 in
theorem own_law (l : Launch) (Z : State) (a0 : Array Value) (hw : ∀ d ∈ tables_1, d.before a0 Z = true) (ws : List Jvm.Cond) (q1 : Int64) (q2 : Int64) (q3 : Int64) (p4 : Int32) (h0 : Heap) (n0 : Nat) (Z0 : n0 ≤ h0.size) :
    MetFree l x (head1 (Jvm.Cond.code x code maxLocals ret :: ws) room_1) (fun xa xU => xa = #[(.long q1), (.long q2), (.long q3), (.int p4)] ∧ Z.Warmed39 xU.vm ∧ xU.heap = h0) (fun _ _ _ _ _ => True) (fun _ xU xo xV => ∃ v L, xo = .returned v ∧ own_Q_own_law Z q1 q2 q3 p4 h0 n0 v xV.heap L ∧ FrameEnd xU xo xV L room_1.cells room_1.slots) := by
  refine MetFree.of_bodySF (plainFor_of_name own_pn676497542) hisR ?_
  intro p e s m args below meth c s₁ Bd hml0 hP hK
  obtain ⟨rfl, hZ, hh⟩ := hP
  have hx := Bd.exec
  have hby := Bd.bytes
  have hlk := Bd.notSynchronized
  have hret := Bd.returns
  have hml : c.maxLocals = 16 := hml0
  have hown : s.vm.findClass "com/example/dessin/dessin/MemoryBudgetTakePinLaw" = some m.cls := findClass_of_methodNamed Bd.named
  have hnm := (name_of_methodNamed Bd.named Bd.method).1
  have X0 : Stand p l e room_1 s m #[(.long q1), (.long q2), (.long q3), (.int p4)] below meth c s₁ [] 0 0 := Stand.of_body Bd
  have e0 : s₁.heap = h0 := by rw [← hh, Bd.state]; rfl
  have N0 := Fr.nil n0
  show own_Gl p e below s (own_Q_own_law Z q1 q2 q3 p4 h0 n0) room_1.cells room_1.slots _
  refine own_cast (own_ef_own_law m q1 q2 q3 p4) ?_
  show own_Gl _ _ _ _ _ _ _ (s₁.setTop (mkF m 0 #[.val (.long q1), .second, .val (.long q2), .second, .val (.long q3), .second, .val (.int p4), .unset, .unset, .unset, .unset, .unset, .unset, .unset, .unset, .unset] []))
  refine own_st (fun _ k => XS.lloadN X0.here hx rfl (hb hby at_0) rfl k) ?_
  show own_Gl _ _ _ _ _ _ _ (s₁.setTop (mkF m 1 #[.val (.long q1), .second, .val (.long q2), .second, .val (.long q3), .second, .val (.int p4), .unset, .unset, .unset, .unset, .unset, .unset, .unset, .unset, .unset] [(.long q1)]))
  refine own_st (X0.ldc2Long hx hown (mvT hZ (hw _ (List.mem_of_getElem? (i := 0) rfl))) (g := (mkF m 1 #[.val (.long q1), .second, .val (.long q2), .second, .val (.long q3), .second, .val (.int p4), .unset, .unset, .unset, .unset, .unset, .unset, .unset, .unset, .unset] [(.long q1)])) rfl (hb hby at_1)) ?_
  show own_Gl _ _ _ _ _ _ _ (s₁.setTop (mkF m 4 #[.val (.long q1), .second, .val (.long q2), .second, .val (.long q3), .second, .val (.int p4), .unset, .unset, .unset, .unset, .unset, .unset, .unset, .unset, .unset] [(.long (9223372036854775807 : Int64)), (.long q1)]))
  refine own_st (fun _ k => XS.land X0.here hx rfl (hb hby at_4) rfl k) ?_
  show own_Gl _ _ _ _ _ _ _ (s₁.setTop (mkF m 5 #[.val (.long q1), .second, .val (.long q2), .second, .val (.long q3), .second, .val (.int p4), .unset, .unset, .unset, .unset, .unset, .unset, .unset, .unset, .unset] [(.long (q1 &&& (9223372036854775807 : Int64)))]))
  refine own_st (fun _ k => XS.lstore X0.here hx rfl (hb hby at_5) rfl (l' := #[.val (.long q1), .second, .val (.long q2), .second, .val (.long q3), .second, .val (.int p4), .val (.long (q1 &&& (9223372036854775807 : Int64))), .second, .unset, .unset, .unset, .unset, .unset, .unset, .unset]) rfl k) ?_
  show own_Gl _ _ _ _ _ _ _ (s₁.setTop (mkF m 7 #[.val (.long q1), .second, .val (.long q2), .second, .val (.long q3), .second, .val (.int p4), .val (.long (q1 &&& (9223372036854775807 : Int64))), .second, .unset, .unset, .unset, .unset, .unset, .unset, .unset] []))
  obtain ⟨lim, hlim⟩ : ∃ z, z = (q1 &&& (9223372036854775807 : Int64)) := ⟨_, rfl⟩
  rw [← hlim]
  have hl0 : 0 ≤ lim.toInt := by rw [hlim]; exact own_nn _
  show own_Gl _ _ _ _ _ _ _ (s₁.setTop (mkF m 7 #[.val (.long q1), .second, .val (.long q2), .second, .val (.long q3), .second, .val (.int p4), .val (.long lim), .second, .unset, .unset, .unset, .unset, .unset, .unset, .unset] []))
  have J39_1 : ∀ (T1 : State) (LL1 : List Loc) (N1 : Fr n0 LL1) (X1 : Stand p l e room_1 s m #[(.long q1), (.long q2), (.long q3), (.int p4)] below meth c T1 LL1 0 0) (e1 : T1.heap = h0) (a : Int64) (ha : 0 ≤ a.toInt ∧ a.toInt ≤ lim.toInt), own_Gl p e below s (own_Q_own_law Z q1 q2 q3 p4 h0 n0) room_1.cells room_1.slots (T1.setTop (mkF m 39 #[.val (.long q1), .second, .val (.long q2), .second, .val (.long q3), .second, .val (.int p4), .val (.long lim), .second, .val (.long a), .second, .unset, .unset, .unset, .unset, .unset] [])) := by
    intro T1 LL1 N1 X1 e1 a ha
    show own_Gl _ _ _ _ _ _ _ (T1.setTop (mkF m 39 #[.val (.long q1), .second, .val (.long q2), .second, .val (.long q3), .second, .val (.int p4), .val (.long lim), .second, .val (.long a), .second, .unset, .unset, .unset, .unset, .unset] []))
    refine own_st (fun _ k => XS.lload X1.here hx rfl (hb hby at_39) rfl k) ?_
    show own_Gl _ _ _ _ _ _ _ (T1.setTop (mkF m 41 #[.val (.long q1), .second, .val (.long q2), .second, .val (.long q3), .second, .val (.int p4), .val (.long lim), .second, .val (.long a), .second, .unset, .unset, .unset, .unset, .unset] [(.long lim)]))
    refine own_st (fun _ k => XS.lload X1.here hx rfl (hb hby at_41) rfl k) ?_
    show own_Gl _ _ _ _ _ _ _ (T1.setTop (mkF m 43 #[.val (.long q1), .second, .val (.long q2), .second, .val (.long q3), .second, .val (.int p4), .val (.long lim), .second, .val (.long a), .second, .unset, .unset, .unset, .unset, .unset] [(.long a), (.long lim)]))
    refine own_st (fun _ k => XS.lsub X1.here hx rfl (hb hby at_43) rfl k) ?_
    show own_Gl _ _ _ _ _ _ _ (T1.setTop (mkF m 44 #[.val (.long q1), .second, .val (.long q2), .second, .val (.long q3), .second, .val (.int p4), .val (.long lim), .second, .val (.long a), .second, .unset, .unset, .unset, .unset, .unset] [(.long (lim - a))]))
    refine own_st (fun _ k => XS.lstore X1.here hx rfl (hb hby at_44) rfl (l' := #[.val (.long q1), .second, .val (.long q2), .second, .val (.long q3), .second, .val (.int p4), .val (.long lim), .second, .val (.long a), .second, .val (.long (lim - a)), .second, .unset, .unset, .unset]) rfl k) ?_
    show own_Gl _ _ _ _ _ _ _ (T1.setTop (mkF m 46 #[.val (.long q1), .second, .val (.long q2), .second, .val (.long q3), .second, .val (.int p4), .val (.long lim), .second, .val (.long a), .second, .val (.long (lim - a)), .second, .unset, .unset, .unset] []))
    have J79_2 : ∀ (T2 : State) (LL2 : List Loc) (N2 : Fr n0 LL2) (X2 : Stand p l e room_1 s m #[(.long q1), (.long q2), (.long q3), (.int p4)] below meth c T2 LL2 0 0) (e2 : T2.heap = h0) (b : Int64) (hbb : 0 ≤ b.toInt ∧ b.toInt ≤ lim.toInt), own_Gl p e below s (own_Q_own_law Z q1 q2 q3 p4 h0 n0) room_1.cells room_1.slots (T2.setTop (mkF m 79 #[.val (.long q1), .second, .val (.long q2), .second, .val (.long q3), .second, .val (.int p4), .val (.long lim), .second, .val (.long a), .second, .val (.long (lim - a)), .second, .val (.long b), .second, .unset] [])) := by
      intro T2 LL2 N2 X2 e2 b hbb
      show own_Gl _ _ _ _ _ _ _ (T2.setTop (mkF m 79 #[.val (.long q1), .second, .val (.long q2), .second, .val (.long q3), .second, .val (.int p4), .val (.long lim), .second, .val (.long a), .second, .val (.long (lim - a)), .second, .val (.long b), .second, .unset] []))
      obtain ⟨T3, h3, X3, e3, E3, A3, D3, -, st3⟩ := newO X2 hx hZ hown (hw _ (List.mem_of_getElem? (i := 1) rfl)) (hw _ (List.mem_of_getElem? (i := 2) rfl)) (hw _ (List.mem_of_getElem? (i := 3) rfl)) e2 (g := (mkF m 79 #[.val (.long q1), .second, .val (.long q2), .second, .val (.long q3), .second, .val (.int p4), .val (.long lim), .second, .val (.long a), .second, .val (.long (lim - a)), .second, .val (.long b), .second, .unset] [])) rfl (hb hby at_79) (by decide) (by decide)
      obtain ⟨b3, gb3⟩ : ∃ z, z = h0.size := ⟨_, rfl⟩
      rw [← gb3] at A3 D3 st3
      refine own_st st3 ?_
      have Zs4 : n0 ≤ h3.size := Nat.le_trans Z0 E3.1
      have g_b3 : n0 ≤ b3 := Nat.le_trans Z0 (Nat.le_of_eq gb3.symm)
      have gh_b3 : h0.size ≤ b3 := Nat.le_trans (Keep.refl h0 []).1 (Nat.le_of_eq gb3.symm)
      have F_limit_b3 : Fld Z h3 b3 "com/example/dessin/dessin/MemoryBudget" "limit" "J" (.long (0 : Int64)) := D3 (Or.inr (hw _ (List.mem_of_getElem? (i := 11) rfl))) (ty := .long) (by decide)
      have F_taken_b3 : Fld Z h3 b3 "com/example/dessin/dessin/MemoryBudget" "taken" "J" (.long (0 : Int64)) := D3 (Or.inl (hw _ (List.mem_of_getElem? (i := 18) rfl))) (ty := .long) (by decide)
      show own_Gl _ _ _ _ _ _ _ (T3.setTop (mkF m 82 #[.val (.long q1), .second, .val (.long q2), .second, .val (.long q3), .second, .val (.int p4), .val (.long lim), .second, .val (.long a), .second, .val (.long (lim - a)), .second, .val (.long b), .second, .unset] [(.ref b3)]))
      refine own_st (fun _ k => XS.dup X3.here hx rfl (hb hby at_82) rfl rfl k) ?_
      show own_Gl _ _ _ _ _ _ _ (T3.setTop (mkF m 83 #[.val (.long q1), .second, .val (.long q2), .second, .val (.long q3), .second, .val (.int p4), .val (.long lim), .second, .val (.long a), .second, .val (.long (lim - a)), .second, .val (.long b), .second, .unset] [(.ref b3), (.ref b3)]))
      refine own_st (fun _ k => XS.lload X3.here hx rfl (hb hby at_83) rfl k) ?_
      show own_Gl _ _ _ _ _ _ _ (T3.setTop (mkF m 85 #[.val (.long q1), .second, .val (.long q2), .second, .val (.long q3), .second, .val (.int p4), .val (.long lim), .second, .val (.long a), .second, .val (.long (lim - a)), .second, .val (.long b), .second, .unset] [(.long lim), (.ref b3), (.ref b3)]))
      obtain ⟨_, _, ⟨T6, L6, k6, n6⟩, -, X6, ⟨Lc6, hQ6, l6, y6, z6⟩, st6⟩ := X3.specialBack hx (y := (⟨"com/example/dessin/dessin/MemoryBudget", "<init>", "(J)V"⟩ : MethodName)) rfl hown (mvT hZ (hw _ (List.mem_of_getElem? (i := 4) rfl))) (mvT hZ (hw _ (List.mem_of_getElem? (i := 5) rfl))) (mvT hZ (hw _ (List.mem_of_getElem? (i := 6) rfl))) (by decide) (backOf (W := 1) (own_init l Z a0 hw [] b3 lim h3 n0 Zs4 A3 F_limit_b3 F_taken_b3 g_b3) hZ (hw _ (List.mem_of_getElem? (i := 6) rfl)) (hw _ (List.mem_of_getElem? (i := 3) rfl)) (by decide) (by decide)) (g := (mkF m 85 #[.val (.long q1), .second, .val (.long q2), .second, .val (.long q3), .second, .val (.int p4), .val (.long lim), .second, .val (.long a), .second, .val (.long (lim - a)), .second, .val (.long b), .second, .unset] [(.long lim), (.ref b3), (.ref b3)])) rfl (by rw [hml]; rfl) (Steps.refl _) (a := b3) (argsL := [(.long lim)]) (rest := [(.ref b3)]) (lenOf own_pd91199011 rfl) rfl (by show 2 * 0 + _ ≤ _; exact Nat.le_of_eq rfl) (hb hby at_85) (fun _ _ => ⟨rfl, e3, (by decide : 1 + 0 ≤ room_1.cells), (by decide : 2 + 0 ≤ room_1.slots)⟩)
      dsimp only [Pt.U, Pt.locs, Pt.cells, Pt.slots] at X6 l6 y6 z6 st6 hQ6
      subst l6 y6 z6
      obtain ⟨hh6, eh06⟩ : ∃ z, T6.heap = z := ⟨_, rfl⟩
      rw [eh06] at hQ6
      obtain ⟨rfl, Nq6, Kq6, P6_0, P6_1⟩ := hQ6
      have N6 := Fr.app N2 Nq6
      refine own_tr st6 ?_
      have Zs7 : n0 ≤ hh6.size := Nat.le_trans Zs4 Kq6.1
      show own_Gl _ _ _ _ _ _ _ (T6.setTop (mkF m 88 #[.val (.long q1), .second, .val (.long q2), .second, .val (.long q3), .second, .val (.int p4), .val (.long lim), .second, .val (.long a), .second, .val (.long (lim - a)), .second, .val (.long b), .second, .unset] [(.ref b3)]))
      refine own_st (fun _ k => XS.astore X6.here hx rfl (hb hby at_88) rfl rfl (l' := #[.val (.long q1), .second, .val (.long q2), .second, .val (.long q3), .second, .val (.int p4), .val (.long lim), .second, .val (.long a), .second, .val (.long (lim - a)), .second, .val (.long b), .second, .val (.ref b3)]) rfl k) ?_
      show own_Gl _ _ _ _ _ _ _ (T6.setTop (mkF m 90 #[.val (.long q1), .second, .val (.long q2), .second, .val (.long q3), .second, .val (.int p4), .val (.long lim), .second, .val (.long a), .second, .val (.long (lim - a)), .second, .val (.long b), .second, .val (.ref b3)] []))
      refine own_st (fun _ k => XS.aload X6.here hx rfl (hb hby at_90) rfl rfl k) ?_
      show own_Gl _ _ _ _ _ _ _ (T6.setTop (mkF m 92 #[.val (.long q1), .second, .val (.long q2), .second, .val (.long q3), .second, .val (.int p4), .val (.long lim), .second, .val (.long a), .second, .val (.long (lim - a)), .second, .val (.long b), .second, .val (.ref b3)] [(.ref b3)]))
      refine own_st (fun _ k => XS.lload X6.here hx rfl (hb hby at_92) rfl k) ?_
      show own_Gl _ _ _ _ _ _ _ (T6.setTop (mkF m 94 #[.val (.long q1), .second, .val (.long q2), .second, .val (.long q3), .second, .val (.int p4), .val (.long lim), .second, .val (.long a), .second, .val (.long (lim - a)), .second, .val (.long b), .second, .val (.ref b3)] [(.long a), (.ref b3)]))
      have f9 := (A3.keep Kq6)
      obtain ⟨cq8, kq8, q8a, q8b, q8c⟩ := isOf hZ eh06 f9
      obtain ⟨_, _, ⟨T8, L8, k8, n8⟩, -, X8, ⟨Lc8, hQ8, l8, y8, z8⟩, st8⟩ := X6.virtualBack hx (y := (⟨"com/example/dessin/dessin/MemoryBudget", "take", "(J)V"⟩ : MethodName)) (z := (⟨"com/example/dessin/dessin/MemoryBudget", "take", "(J)V"⟩ : MethodName)) hown (mvT hZ (hw _ (List.mem_of_getElem? (i := 12) rfl))) (mvT hZ (hw _ (List.mem_of_getElem? (i := 13) rfl))) (notFace_of_selects (args := #[]) (mvT hZ (hw _ (List.mem_of_getElem? (i := 15) rfl)))) (mvT hZ (hw _ (List.mem_of_getElem? (i := 15) rfl))) (mvT hZ (hw _ (List.mem_of_getElem? (i := 14) rfl))) (by decide) (backOf (W := 0) (own_take l Z a0 hw [] b3 a lim (0 : Int64) hh6 n0 Zs7 f9 P6_0 P6_1 g_b3 (own_p1 _ _ ha)) hZ (hw _ (List.mem_of_getElem? (i := 16) rfl)) (hw _ (List.mem_of_getElem? (i := 3) rfl)) (by decide) (by decide)) q8a q8c (g := (mkF m 94 #[.val (.long q1), .second, .val (.long q2), .second, .val (.long q3), .second, .val (.int p4), .val (.long lim), .second, .val (.long a), .second, .val (.long (lim - a)), .second, .val (.long b), .second, .val (.ref b3)] [(.long a), (.ref b3)])) rfl (by rw [hml]; rfl) (Steps.refl _) (argsL := [(.long a)]) (rest := []) (lenOf own_pd91199011 rfl) rfl (by show 2 * 0 + _ ≤ _; exact Nat.le_of_eq rfl) (hb hby at_94) (fun _ _ => ⟨rfl, eh06, (by decide : 1 + 0 ≤ room_1.cells), (by decide : 2 + 0 ≤ room_1.slots)⟩)
      dsimp only [Pt.U, Pt.locs, Pt.cells, Pt.slots] at X8 l8 y8 z8 st8 hQ8
      subst l8 y8 z8
      obtain ⟨hh8, eh08⟩ : ∃ z, T8.heap = z := ⟨_, rfl⟩
      rw [eh08] at hQ8
      obtain ⟨rfl, Nq8, Kq8, P8_0, P8_1⟩ := hQ8
      have N8 := Fr.app N6 Nq8
      refine own_tr st8 ?_
      have Zs10 : n0 ≤ hh8.size := Nat.le_trans Zs7 Kq8.1
      show own_Gl _ _ _ _ _ _ _ (T8.setTop (mkF m 97 #[.val (.long q1), .second, .val (.long q2), .second, .val (.long q3), .second, .val (.int p4), .val (.long lim), .second, .val (.long a), .second, .val (.long (lim - a)), .second, .val (.long b), .second, .val (.ref b3)] []))
      refine own_st (fun _ k => XS.aload X8.here hx rfl (hb hby at_97) rfl rfl k) ?_
      show own_Gl _ _ _ _ _ _ _ (T8.setTop (mkF m 99 #[.val (.long q1), .second, .val (.long q2), .second, .val (.long q3), .second, .val (.int p4), .val (.long lim), .second, .val (.long a), .second, .val (.long (lim - a)), .second, .val (.long b), .second, .val (.ref b3)] [(.ref b3)]))
      refine own_st (fun _ k => XS.lload X8.here hx rfl (hb hby at_99) rfl k) ?_
      show own_Gl _ _ _ _ _ _ _ (T8.setTop (mkF m 101 #[.val (.long q1), .second, .val (.long q2), .second, .val (.long q3), .second, .val (.int p4), .val (.long lim), .second, .val (.long a), .second, .val (.long (lim - a)), .second, .val (.long b), .second, .val (.ref b3)] [(.long (lim - a)), (.ref b3)]))
      have f12 := (f9.keep Kq8)
      obtain ⟨cq11, kq11, q11a, q11b, q11c⟩ := isOf hZ eh08 f12
      obtain ⟨_, _, ⟨T11, L11, k11, n11⟩, -, X11, ⟨Lc11, hQ11, l11, y11, z11⟩, st11⟩ := X8.virtualBack hx (y := (⟨"com/example/dessin/dessin/MemoryBudget", "take", "(J)V"⟩ : MethodName)) (z := (⟨"com/example/dessin/dessin/MemoryBudget", "take", "(J)V"⟩ : MethodName)) hown (mvT hZ (hw _ (List.mem_of_getElem? (i := 12) rfl))) (mvT hZ (hw _ (List.mem_of_getElem? (i := 13) rfl))) (notFace_of_selects (args := #[]) (mvT hZ (hw _ (List.mem_of_getElem? (i := 15) rfl)))) (mvT hZ (hw _ (List.mem_of_getElem? (i := 15) rfl))) (mvT hZ (hw _ (List.mem_of_getElem? (i := 14) rfl))) (by decide) (backOf (W := 0) (own_take l Z a0 hw [] b3 (lim - a) lim ((0 : Int64) + a) hh8 n0 Zs10 f12 P8_0 P8_1 g_b3 (own_p2 _ _)) hZ (hw _ (List.mem_of_getElem? (i := 16) rfl)) (hw _ (List.mem_of_getElem? (i := 3) rfl)) (by decide) (by decide)) q11a q11c (g := (mkF m 101 #[.val (.long q1), .second, .val (.long q2), .second, .val (.long q3), .second, .val (.int p4), .val (.long lim), .second, .val (.long a), .second, .val (.long (lim - a)), .second, .val (.long b), .second, .val (.ref b3)] [(.long (lim - a)), (.ref b3)])) rfl (by rw [hml]; rfl) (Steps.refl _) (argsL := [(.long (lim - a))]) (rest := []) (lenOf own_pd91199011 rfl) rfl (by show 2 * 0 + _ ≤ _; exact Nat.le_of_eq rfl) (hb hby at_101) (fun _ _ => ⟨rfl, eh08, (by decide : 1 + 0 ≤ room_1.cells), (by decide : 2 + 0 ≤ room_1.slots)⟩)
      dsimp only [Pt.U, Pt.locs, Pt.cells, Pt.slots] at X11 l11 y11 z11 st11 hQ11
      subst l11 y11 z11
      obtain ⟨hh11, eh011⟩ : ∃ z, T11.heap = z := ⟨_, rfl⟩
      rw [eh011] at hQ11
      obtain ⟨rfl, Nq11, Kq11, P11_0, P11_1⟩ := hQ11
      have N11 := Fr.app N8 Nq11
      refine own_tr st11 ?_
      have Zs13 : n0 ≤ hh11.size := Nat.le_trans Zs10 Kq11.1
      show own_Gl _ _ _ _ _ _ _ (T11.setTop (mkF m 104 #[.val (.long q1), .second, .val (.long q2), .second, .val (.long q3), .second, .val (.int p4), .val (.long lim), .second, .val (.long a), .second, .val (.long (lim - a)), .second, .val (.long b), .second, .val (.ref b3)] []))
      refine own_st (fun _ k => XS.aload X11.here hx rfl (hb hby at_104) rfl rfl k) ?_
      show own_Gl _ _ _ _ _ _ _ (T11.setTop (mkF m 106 #[.val (.long q1), .second, .val (.long q2), .second, .val (.long q3), .second, .val (.int p4), .val (.long lim), .second, .val (.long a), .second, .val (.long (lim - a)), .second, .val (.long b), .second, .val (.ref b3)] [(.ref b3)]))
      refine own_st (fun _ k => XS.lconst X11.here hx rfl (hb hby at_106) k) ?_
      show own_Gl _ _ _ _ _ _ _ (T11.setTop (mkF m 107 #[.val (.long q1), .second, .val (.long q2), .second, .val (.long q3), .second, .val (.int p4), .val (.long lim), .second, .val (.long a), .second, .val (.long (lim - a)), .second, .val (.long b), .second, .val (.ref b3)] [(.long (0 : Int64)), (.ref b3)]))
      have f15 := (f12.keep Kq11)
      obtain ⟨cq14, kq14, q14a, q14b, q14c⟩ := isOf hZ eh011 f15
      obtain ⟨_, _, ⟨T14, L14, k14, n14⟩, -, X14, ⟨Lc14, hQ14, l14, y14, z14⟩, st14⟩ := X11.virtualBack hx (y := (⟨"com/example/dessin/dessin/MemoryBudget", "take", "(J)V"⟩ : MethodName)) (z := (⟨"com/example/dessin/dessin/MemoryBudget", "take", "(J)V"⟩ : MethodName)) hown (mvT hZ (hw _ (List.mem_of_getElem? (i := 12) rfl))) (mvT hZ (hw _ (List.mem_of_getElem? (i := 13) rfl))) (notFace_of_selects (args := #[]) (mvT hZ (hw _ (List.mem_of_getElem? (i := 15) rfl)))) (mvT hZ (hw _ (List.mem_of_getElem? (i := 15) rfl))) (mvT hZ (hw _ (List.mem_of_getElem? (i := 14) rfl))) (by decide) (backOf (W := 0) (own_take l Z a0 hw [] b3 (0 : Int64) lim (((0 : Int64) + a) + (lim - a)) hh11 n0 Zs13 f15 P11_0 P11_1 g_b3 (own_p3 _ _)) hZ (hw _ (List.mem_of_getElem? (i := 16) rfl)) (hw _ (List.mem_of_getElem? (i := 3) rfl)) (by decide) (by decide)) q14a q14c (g := (mkF m 107 #[.val (.long q1), .second, .val (.long q2), .second, .val (.long q3), .second, .val (.int p4), .val (.long lim), .second, .val (.long a), .second, .val (.long (lim - a)), .second, .val (.long b), .second, .val (.ref b3)] [(.long (0 : Int64)), (.ref b3)])) rfl (by rw [hml]; rfl) (Steps.refl _) (argsL := [(.long (0 : Int64))]) (rest := []) (lenOf own_pd91199011 rfl) rfl (by show 2 * 0 + _ ≤ _; exact Nat.le_of_eq rfl) (hb hby at_107) (fun _ _ => ⟨rfl, eh011, (by decide : 1 + 0 ≤ room_1.cells), (by decide : 2 + 0 ≤ room_1.slots)⟩)
      dsimp only [Pt.U, Pt.locs, Pt.cells, Pt.slots] at X14 l14 y14 z14 st14 hQ14
      subst l14 y14 z14
      obtain ⟨hh14, eh014⟩ : ∃ z, T14.heap = z := ⟨_, rfl⟩
      rw [eh014] at hQ14
      obtain ⟨rfl, Nq14, Kq14, P14_0, P14_1⟩ := hQ14
      have N14 := Fr.app N11 Nq14
      refine own_tr st14 ?_
      have Zs16 : n0 ≤ hh14.size := Nat.le_trans Zs13 Kq14.1
      show own_Gl _ _ _ _ _ _ _ (T14.setTop (mkF m 110 #[.val (.long q1), .second, .val (.long q2), .second, .val (.long q3), .second, .val (.int p4), .val (.long lim), .second, .val (.long a), .second, .val (.long (lim - a)), .second, .val (.long b), .second, .val (.ref b3)] []))
      refine own_st (fun _ k => XS.aload X14.here hx rfl (hb hby at_110) rfl rfl k) ?_
      show own_Gl _ _ _ _ _ _ _ (T14.setTop (mkF m 112 #[.val (.long q1), .second, .val (.long q2), .second, .val (.long q3), .second, .val (.int p4), .val (.long lim), .second, .val (.long a), .second, .val (.long (lim - a)), .second, .val (.long b), .second, .val (.ref b3)] [(.ref b3)]))
      refine own_st (fun _ k => XS.lload X14.here hx rfl (hb hby at_112) rfl k) ?_
      show own_Gl _ _ _ _ _ _ _ (T14.setTop (mkF m 114 #[.val (.long q1), .second, .val (.long q2), .second, .val (.long q3), .second, .val (.int p4), .val (.long lim), .second, .val (.long a), .second, .val (.long (lim - a)), .second, .val (.long b), .second, .val (.ref b3)] [(.long b), (.ref b3)]))
      have f18 := (f15.keep Kq14)
      obtain ⟨cq17, kq17, q17a, q17b, q17c⟩ := isOf hZ eh014 f18
      obtain ⟨_, _, ⟨T17, L17, k17, n17⟩, -, X17, ⟨Lc17, hQ17, l17, y17, z17⟩, st17⟩ := X14.virtualBack hx (y := (⟨"com/example/dessin/dessin/MemoryBudget", "giveBack", "(J)V"⟩ : MethodName)) (z := (⟨"com/example/dessin/dessin/MemoryBudget", "giveBack", "(J)V"⟩ : MethodName)) hown (mvT hZ (hw _ (List.mem_of_getElem? (i := 19) rfl))) (mvT hZ (hw _ (List.mem_of_getElem? (i := 20) rfl))) (notFace_of_selects (args := #[]) (mvT hZ (hw _ (List.mem_of_getElem? (i := 22) rfl)))) (mvT hZ (hw _ (List.mem_of_getElem? (i := 22) rfl))) (mvT hZ (hw _ (List.mem_of_getElem? (i := 21) rfl))) (by decide) (backOf (W := 0) (own_give l Z a0 hw [] b3 b lim ((((0 : Int64) + a) + (lim - a)) + (0 : Int64)) hh14 n0 Zs16 f18 P14_0 P14_1 g_b3) hZ (hw _ (List.mem_of_getElem? (i := 23) rfl)) (hw _ (List.mem_of_getElem? (i := 3) rfl)) (by decide) (by decide)) q17a q17c (g := (mkF m 114 #[.val (.long q1), .second, .val (.long q2), .second, .val (.long q3), .second, .val (.int p4), .val (.long lim), .second, .val (.long a), .second, .val (.long (lim - a)), .second, .val (.long b), .second, .val (.ref b3)] [(.long b), (.ref b3)])) rfl (by rw [hml]; rfl) (Steps.refl _) (argsL := [(.long b)]) (rest := []) (lenOf own_pd91199011 rfl) rfl (by show 2 * 0 + _ ≤ _; exact Nat.le_of_eq rfl) (hb hby at_114) (fun _ _ => ⟨rfl, eh014, (by decide : 1 + 0 ≤ room_1.cells), (by decide : 2 + 0 ≤ room_1.slots)⟩)
      dsimp only [Pt.U, Pt.locs, Pt.cells, Pt.slots] at X17 l17 y17 z17 st17 hQ17
      subst l17 y17 z17
      obtain ⟨hh17, eh017⟩ : ∃ z, T17.heap = z := ⟨_, rfl⟩
      rw [eh017] at hQ17
      obtain ⟨rfl, Nq17, Kq17, P17_0, P17_1⟩ := hQ17
      have N17 := Fr.app N14 Nq17
      refine own_tr st17 ?_
      have Zs19 : n0 ≤ hh17.size := Nat.le_trans Zs16 Kq17.1
      show own_Gl _ _ _ _ _ _ _ (T17.setTop (mkF m 117 #[.val (.long q1), .second, .val (.long q2), .second, .val (.long q3), .second, .val (.int p4), .val (.long lim), .second, .val (.long a), .second, .val (.long (lim - a)), .second, .val (.long b), .second, .val (.ref b3)] []))
      refine own_st (fun _ k => XS.aload X17.here hx rfl (hb hby at_117) rfl rfl k) ?_
      show own_Gl _ _ _ _ _ _ _ (T17.setTop (mkF m 119 #[.val (.long q1), .second, .val (.long q2), .second, .val (.long q3), .second, .val (.int p4), .val (.long lim), .second, .val (.long a), .second, .val (.long (lim - a)), .second, .val (.long b), .second, .val (.ref b3)] [(.ref b3)]))
      refine own_st (fun _ k => XS.lload X17.here hx rfl (hb hby at_119) rfl k) ?_
      show own_Gl _ _ _ _ _ _ _ (T17.setTop (mkF m 121 #[.val (.long q1), .second, .val (.long q2), .second, .val (.long q3), .second, .val (.int p4), .val (.long lim), .second, .val (.long a), .second, .val (.long (lim - a)), .second, .val (.long b), .second, .val (.ref b3)] [(.long b), (.ref b3)]))
      have f21 := (f18.keep Kq17)
      obtain ⟨cq20, kq20, q20a, q20b, q20c⟩ := isOf hZ eh017 f21
      obtain ⟨_, _, ⟨T20, L20, k20, n20⟩, -, X20, ⟨Lc20, hQ20, l20, y20, z20⟩, st20⟩ := X17.virtualBack hx (y := (⟨"com/example/dessin/dessin/MemoryBudget", "take", "(J)V"⟩ : MethodName)) (z := (⟨"com/example/dessin/dessin/MemoryBudget", "take", "(J)V"⟩ : MethodName)) hown (mvT hZ (hw _ (List.mem_of_getElem? (i := 12) rfl))) (mvT hZ (hw _ (List.mem_of_getElem? (i := 13) rfl))) (notFace_of_selects (args := #[]) (mvT hZ (hw _ (List.mem_of_getElem? (i := 15) rfl)))) (mvT hZ (hw _ (List.mem_of_getElem? (i := 15) rfl))) (mvT hZ (hw _ (List.mem_of_getElem? (i := 14) rfl))) (by decide) (backOf (W := 0) (own_take l Z a0 hw [] b3 b lim (((((0 : Int64) + a) + (lim - a)) + (0 : Int64)) - b) hh17 n0 Zs19 f21 P17_0 P17_1 g_b3 (own_p4 _ _ _)) hZ (hw _ (List.mem_of_getElem? (i := 16) rfl)) (hw _ (List.mem_of_getElem? (i := 3) rfl)) (by decide) (by decide)) q20a q20c (g := (mkF m 121 #[.val (.long q1), .second, .val (.long q2), .second, .val (.long q3), .second, .val (.int p4), .val (.long lim), .second, .val (.long a), .second, .val (.long (lim - a)), .second, .val (.long b), .second, .val (.ref b3)] [(.long b), (.ref b3)])) rfl (by rw [hml]; rfl) (Steps.refl _) (argsL := [(.long b)]) (rest := []) (lenOf own_pd91199011 rfl) rfl (by show 2 * 0 + _ ≤ _; exact Nat.le_of_eq rfl) (hb hby at_121) (fun _ _ => ⟨rfl, eh017, (by decide : 1 + 0 ≤ room_1.cells), (by decide : 2 + 0 ≤ room_1.slots)⟩)
      dsimp only [Pt.U, Pt.locs, Pt.cells, Pt.slots] at X20 l20 y20 z20 st20 hQ20
      subst l20 y20 z20
      obtain ⟨hh20, eh020⟩ : ∃ z, T20.heap = z := ⟨_, rfl⟩
      rw [eh020] at hQ20
      obtain ⟨rfl, Nq20, Kq20, P20_0, P20_1⟩ := hQ20
      have N20 := Fr.app N17 Nq20
      refine own_tr st20 ?_
      have Zs22 : n0 ≤ hh20.size := Nat.le_trans Zs19 Kq20.1
      show own_Gl _ _ _ _ _ _ _ (T20.setTop (mkF m 124 #[.val (.long q1), .second, .val (.long q2), .second, .val (.long q3), .second, .val (.int p4), .val (.long lim), .second, .val (.long a), .second, .val (.long (lim - a)), .second, .val (.long b), .second, .val (.ref b3)] []))
      refine own_st (fun _ k => XS.aload X20.here hx rfl (hb hby at_124) rfl rfl k) ?_
      show own_Gl _ _ _ _ _ _ _ (T20.setTop (mkF m 126 #[.val (.long q1), .second, .val (.long q2), .second, .val (.long q3), .second, .val (.int p4), .val (.long lim), .second, .val (.long a), .second, .val (.long (lim - a)), .second, .val (.long b), .second, .val (.ref b3)] [(.ref b3)]))
      have f24 := (f21.keep Kq20)
      obtain ⟨cq23, kq23, q23a, q23b, q23c⟩ := isOf hZ eh020 f24
      obtain ⟨_, _, ⟨T23, L23, k23, n23⟩, -, X23, ⟨Lc23, hQ23, l23, y23, z23⟩, st23⟩ := X20.virtualBack hx (y := (⟨"com/example/dessin/dessin/MemoryBudget", "limit", "()J"⟩ : MethodName)) (z := (⟨"com/example/dessin/dessin/MemoryBudget", "limit", "()J"⟩ : MethodName)) hown (mvT hZ (hw _ (List.mem_of_getElem? (i := 24) rfl))) (mvT hZ (hw _ (List.mem_of_getElem? (i := 25) rfl))) (notFace_of_selects (args := #[]) (mvT hZ (hw _ (List.mem_of_getElem? (i := 27) rfl)))) (mvT hZ (hw _ (List.mem_of_getElem? (i := 27) rfl))) (mvT hZ (hw _ (List.mem_of_getElem? (i := 26) rfl))) (by decide) (backOf (W := 0) (own_limit l Z a0 hw [] b3 lim hh20 n0 Zs22 P20_0) hZ (hw _ (List.mem_of_getElem? (i := 28) rfl)) (hw _ (List.mem_of_getElem? (i := 3) rfl)) (by decide) (by decide)) q23a q23c (g := (mkF m 126 #[.val (.long q1), .second, .val (.long q2), .second, .val (.long q3), .second, .val (.int p4), .val (.long lim), .second, .val (.long a), .second, .val (.long (lim - a)), .second, .val (.long b), .second, .val (.ref b3)] [(.ref b3)])) rfl (by rw [hml]; rfl) (Steps.refl _) (argsL := []) (rest := []) (lenOf own_pd691885 rfl) rfl (by show 2 * 0 + _ ≤ _; exact Nat.le_of_eq rfl) (hb hby at_126) (fun _ _ => ⟨rfl, eh020, (by decide : 1 + 0 ≤ room_1.cells), (by decide : 2 + 0 ≤ room_1.slots)⟩)
      dsimp only [Pt.U, Pt.locs, Pt.cells, Pt.slots] at X23 l23 y23 z23 st23 hQ23
      subst l23 y23 z23
      obtain ⟨hh23, eh023⟩ : ∃ z, T23.heap = z := ⟨_, rfl⟩
      rw [eh023] at hQ23
      obtain ⟨rfl, Nq23, eh23⟩ := hQ23
      have N23 := Fr.app N20 Nq23
      refine own_tr st23 ?_
      have e23 : T23.heap = hh20 := eh023.trans eh23
      show own_Gl _ _ _ _ _ _ _ (T23.setTop (mkF m 129 #[.val (.long q1), .second, .val (.long q2), .second, .val (.long q3), .second, .val (.int p4), .val (.long lim), .second, .val (.long a), .second, .val (.long (lim - a)), .second, .val (.long b), .second, .val (.ref b3)] [(.long lim)]))
      refine own_st (fun _ k => XS.lload X23.here hx rfl (hb hby at_129) rfl k) ?_
      show own_Gl _ _ _ _ _ _ _ (T23.setTop (mkF m 131 #[.val (.long q1), .second, .val (.long q2), .second, .val (.long q3), .second, .val (.int p4), .val (.long lim), .second, .val (.long a), .second, .val (.long (lim - a)), .second, .val (.long b), .second, .val (.ref b3)] [(.long lim), (.long lim)]))
      refine own_st (fun _ k => XS.lcmp X23.here hx rfl (hb hby at_131) rfl k) ?_
      show own_Gl _ _ _ _ _ _ _ (T23.setTop (mkF m 132 #[.val (.long q1), .second, .val (.long q2), .second, .val (.long q3), .second, .val (.int p4), .val (.long lim), .second, .val (.long a), .second, .val (.long (lim - a)), .second, .val (.long b), .second, .val (.ref b3)] [(.int (lcmpW lim lim))]))
      have hd25 : lim = lim := rfl
      refine own_st (fun _ k => XS.ifNo X23.here hx rfl (hb hby at_132) rfl ((if0 _ _).trans (teq ((lw_eq _ _).mpr hd25)).2) k) ?_
      show own_Gl _ _ _ _ _ _ _ (T23.setTop (mkF m 135 #[.val (.long q1), .second, .val (.long q2), .second, .val (.long q3), .second, .val (.int p4), .val (.long lim), .second, .val (.long a), .second, .val (.long (lim - a)), .second, .val (.long b), .second, .val (.ref b3)] []))
      refine own_st (fun _ k => XS.iconst X23.here hx rfl (hb hby at_135) k) ?_
      show own_Gl _ _ _ _ _ _ _ (T23.setTop (mkF m 136 #[.val (.long q1), .second, .val (.long q2), .second, .val (.long q3), .second, .val (.int p4), .val (.long lim), .second, .val (.long a), .second, .val (.long (lim - a)), .second, .val (.long b), .second, .val (.ref b3)] [(.int (1 : Int32))]))
      refine own_st (fun _ k => XS.goto X23.here hx rfl (pc0 := 136) (pc' := 140) rfl (hb hby at_136) (by decide) (by decide) k) ?_
      show own_Gl _ _ _ _ _ _ _ (T23.setTop (mkF m 140 #[.val (.long q1), .second, .val (.long q2), .second, .val (.long q3), .second, .val (.int p4), .val (.long lim), .second, .val (.long a), .second, .val (.long (lim - a)), .second, .val (.long b), .second, .val (.ref b3)] [(.int (1 : Int32))]))
      exact own_retN X23 hx hlk (t := .boolean) hret (by simp) (hb hby at_140) e23 ⟨rfl, N23⟩ (by decide) (by decide)
    refine own_st (fun _ k => XS.lload X1.here hx rfl (hb hby at_46) rfl k) ?_
    show own_Gl _ _ _ _ _ _ _ (T1.setTop (mkF m 48 #[.val (.long q1), .second, .val (.long q2), .second, .val (.long q3), .second, .val (.int p4), .val (.long lim), .second, .val (.long a), .second, .val (.long (lim - a)), .second, .unset, .unset, .unset] [(.long lim)]))
    refine own_st (fun _ k => XS.lconst X1.here hx rfl (hb hby at_48) k) ?_
    show own_Gl _ _ _ _ _ _ _ (T1.setTop (mkF m 49 #[.val (.long q1), .second, .val (.long q2), .second, .val (.long q3), .second, .val (.int p4), .val (.long lim), .second, .val (.long a), .second, .val (.long (lim - a)), .second, .unset, .unset, .unset] [(.long (0 : Int64)), (.long lim)]))
    refine own_st (fun _ k => XS.lcmp X1.here hx rfl (hb hby at_49) rfl k) ?_
    show own_Gl _ _ _ _ _ _ _ (T1.setTop (mkF m 50 #[.val (.long q1), .second, .val (.long q2), .second, .val (.long q3), .second, .val (.int p4), .val (.long lim), .second, .val (.long a), .second, .val (.long (lim - a)), .second, .unset, .unset, .unset] [(.int (lcmpW lim (0 : Int64)))]))
    by_cases hc50 : lim = (0 : Int64)
    · refine own_st (fun _ k => XS.ifNo X1.here hx rfl (hb hby at_50) rfl ((if0 _ _).trans (teq ((lw_eq _ _).mpr hc50)).2) k) ?_
      show own_Gl _ _ _ _ _ _ _ (T1.setTop (mkF m 53 #[.val (.long q1), .second, .val (.long q2), .second, .val (.long q3), .second, .val (.int p4), .val (.long lim), .second, .val (.long a), .second, .val (.long (lim - a)), .second, .unset, .unset, .unset] []))
      refine own_st (fun _ k => XS.lconst X1.here hx rfl (hb hby at_53) k) ?_
      show own_Gl _ _ _ _ _ _ _ (T1.setTop (mkF m 54 #[.val (.long q1), .second, .val (.long q2), .second, .val (.long q3), .second, .val (.int p4), .val (.long lim), .second, .val (.long a), .second, .val (.long (lim - a)), .second, .unset, .unset, .unset] [(.long (0 : Int64))]))
      refine own_st (fun _ k => XS.goto X1.here hx rfl (pc0 := 54) (pc' := 66) rfl (hb hby at_54) (by decide) (by decide) k) ?_
      show own_Gl _ _ _ _ _ _ _ (T1.setTop (mkF m 66 #[.val (.long q1), .second, .val (.long q2), .second, .val (.long q3), .second, .val (.int p4), .val (.long lim), .second, .val (.long a), .second, .val (.long (lim - a)), .second, .unset, .unset, .unset] [(.long (0 : Int64))]))
      refine own_st (fun _ k => XS.lstore X1.here hx rfl (hb hby at_66) rfl (l' := #[.val (.long q1), .second, .val (.long q2), .second, .val (.long q3), .second, .val (.int p4), .val (.long lim), .second, .val (.long a), .second, .val (.long (lim - a)), .second, .val (.long (0 : Int64)), .second, .unset]) rfl k) ?_
      show own_Gl _ _ _ _ _ _ _ (T1.setTop (mkF m 68 #[.val (.long q1), .second, .val (.long q2), .second, .val (.long q3), .second, .val (.int p4), .val (.long lim), .second, .val (.long a), .second, .val (.long (lim - a)), .second, .val (.long (0 : Int64)), .second, .unset] []))
      refine own_st (fun _ k => XS.iload X1.here hx rfl (hb hby at_68) rfl k) ?_
      show own_Gl _ _ _ _ _ _ _ (T1.setTop (mkF m 70 #[.val (.long q1), .second, .val (.long q2), .second, .val (.long q3), .second, .val (.int p4), .val (.long lim), .second, .val (.long a), .second, .val (.long (lim - a)), .second, .val (.long (0 : Int64)), .second, .unset] [(.int p4)]))
      refine own_st (fun _ k => XS.iconst X1.here hx rfl (hb hby at_70) k) ?_
      show own_Gl _ _ _ _ _ _ _ (T1.setTop (mkF m 71 #[.val (.long q1), .second, .val (.long q2), .second, .val (.long q3), .second, .val (.int p4), .val (.long lim), .second, .val (.long a), .second, .val (.long (lim - a)), .second, .val (.long (0 : Int64)), .second, .unset] [(.int (2 : Int32)), (.int p4)]))
      refine own_st (fun _ k => XS.iand X1.here hx rfl (hb hby at_71) rfl k) ?_
      show own_Gl _ _ _ _ _ _ _ (T1.setTop (mkF m 72 #[.val (.long q1), .second, .val (.long q2), .second, .val (.long q3), .second, .val (.int p4), .val (.long lim), .second, .val (.long a), .second, .val (.long (lim - a)), .second, .val (.long (0 : Int64)), .second, .unset] [(.int (p4 &&& (2 : Int32)))]))
      by_cases hc72 : (p4 &&& (2 : Int32)) = (0 : Int32)
      · refine own_st (fun _ k => XS.ifYes X1.here hx rfl (pc0 := 72) (pc' := 79) rfl (hb hby at_72) rfl ((if0 _ _).trans (teq hc72).1) (by decide) (by decide) k) ?_
        show own_Gl _ _ _ _ _ _ _ (T1.setTop (mkF m 79 #[.val (.long q1), .second, .val (.long q2), .second, .val (.long q3), .second, .val (.int p4), .val (.long lim), .second, .val (.long a), .second, .val (.long (lim - a)), .second, .val (.long (0 : Int64)), .second, .unset] []))
        show own_Gl _ _ _ _ _ _ _ (T1.setTop (mkF m 79 #[.val (.long q1), .second, .val (.long q2), .second, .val (.long q3), .second, .val (.int p4), .val (.long lim), .second, .val (.long a), .second, .val (.long (lim - a)), .second, .val (.long (0 : Int64)), .second, .unset] []))
        exact J79_2 T1 _ N1 X1 e1 ((0 : Int64)) ⟨by decide, by rw [own_z]; exact hl0⟩
      · refine own_st (fun _ k => XS.ifNo X1.here hx rfl (hb hby at_72) rfl ((if0 _ _).trans (feq hc72).1) k) ?_
        show own_Gl _ _ _ _ _ _ _ (T1.setTop (mkF m 75 #[.val (.long q1), .second, .val (.long q2), .second, .val (.long q3), .second, .val (.int p4), .val (.long lim), .second, .val (.long a), .second, .val (.long (lim - a)), .second, .val (.long (0 : Int64)), .second, .unset] []))
        refine own_st (fun _ k => XS.lload X1.here hx rfl (hb hby at_75) rfl k) ?_
        show own_Gl _ _ _ _ _ _ _ (T1.setTop (mkF m 77 #[.val (.long q1), .second, .val (.long q2), .second, .val (.long q3), .second, .val (.int p4), .val (.long lim), .second, .val (.long a), .second, .val (.long (lim - a)), .second, .val (.long (0 : Int64)), .second, .unset] [(.long lim)]))
        refine own_st (fun _ k => XS.lstore X1.here hx rfl (hb hby at_77) rfl (l' := #[.val (.long q1), .second, .val (.long q2), .second, .val (.long q3), .second, .val (.int p4), .val (.long lim), .second, .val (.long a), .second, .val (.long (lim - a)), .second, .val (.long lim), .second, .unset]) rfl k) ?_
        show own_Gl _ _ _ _ _ _ _ (T1.setTop (mkF m 79 #[.val (.long q1), .second, .val (.long q2), .second, .val (.long q3), .second, .val (.int p4), .val (.long lim), .second, .val (.long a), .second, .val (.long (lim - a)), .second, .val (.long lim), .second, .unset] []))
        show own_Gl _ _ _ _ _ _ _ (T1.setTop (mkF m 79 #[.val (.long q1), .second, .val (.long q2), .second, .val (.long q3), .second, .val (.int p4), .val (.long lim), .second, .val (.long a), .second, .val (.long (lim - a)), .second, .val (.long lim), .second, .unset] []))
        exact J79_2 T1 _ N1 X1 e1 (lim) ⟨hl0, Int.le_refl _⟩
    · refine own_st (fun _ k => XS.ifYes X1.here hx rfl (pc0 := 50) (pc' := 57) rfl (hb hby at_50) rfl ((if0 _ _).trans (feq (mt (lw_eq _ _).mp hc50)).2) (by decide) (by decide) k) ?_
      show own_Gl _ _ _ _ _ _ _ (T1.setTop (mkF m 57 #[.val (.long q1), .second, .val (.long q2), .second, .val (.long q3), .second, .val (.int p4), .val (.long lim), .second, .val (.long a), .second, .val (.long (lim - a)), .second, .unset, .unset, .unset] []))
      refine own_st (fun _ k => XS.lload X1.here hx rfl (hb hby at_57) rfl k) ?_
      show own_Gl _ _ _ _ _ _ _ (T1.setTop (mkF m 59 #[.val (.long q1), .second, .val (.long q2), .second, .val (.long q3), .second, .val (.int p4), .val (.long lim), .second, .val (.long a), .second, .val (.long (lim - a)), .second, .unset, .unset, .unset] [(.long q3)]))
      refine own_st (X1.ldc2Long hx hown (mvT hZ (hw _ (List.mem_of_getElem? (i := 0) rfl))) (g := (mkF m 59 #[.val (.long q1), .second, .val (.long q2), .second, .val (.long q3), .second, .val (.int p4), .val (.long lim), .second, .val (.long a), .second, .val (.long (lim - a)), .second, .unset, .unset, .unset] [(.long q3)])) rfl (hb hby at_59)) ?_
      show own_Gl _ _ _ _ _ _ _ (T1.setTop (mkF m 62 #[.val (.long q1), .second, .val (.long q2), .second, .val (.long q3), .second, .val (.int p4), .val (.long lim), .second, .val (.long a), .second, .val (.long (lim - a)), .second, .unset, .unset, .unset] [(.long (9223372036854775807 : Int64)), (.long q3)]))
      refine own_st (fun _ k => XS.land X1.here hx rfl (hb hby at_62) rfl k) ?_
      show own_Gl _ _ _ _ _ _ _ (T1.setTop (mkF m 63 #[.val (.long q1), .second, .val (.long q2), .second, .val (.long q3), .second, .val (.int p4), .val (.long lim), .second, .val (.long a), .second, .val (.long (lim - a)), .second, .unset, .unset, .unset] [(.long (q3 &&& (9223372036854775807 : Int64)))]))
      refine own_st (fun _ k => XS.lload X1.here hx rfl (hb hby at_63) rfl k) ?_
      show own_Gl _ _ _ _ _ _ _ (T1.setTop (mkF m 65 #[.val (.long q1), .second, .val (.long q2), .second, .val (.long q3), .second, .val (.int p4), .val (.long lim), .second, .val (.long a), .second, .val (.long (lim - a)), .second, .unset, .unset, .unset] [(.long lim), (.long (q3 &&& (9223372036854775807 : Int64)))]))
      refine own_st (fun _ k => XS.lrem X1.here hx rfl (hb hby at_65) rfl (fun q => hc50 q) k) ?_
      show own_Gl _ _ _ _ _ _ _ (T1.setTop (mkF m 66 #[.val (.long q1), .second, .val (.long q2), .second, .val (.long q3), .second, .val (.int p4), .val (.long lim), .second, .val (.long a), .second, .val (.long (lim - a)), .second, .unset, .unset, .unset] [(.long ((q3 &&& (9223372036854775807 : Int64)) - ((q3 &&& (9223372036854775807 : Int64)) / lim) * lim))]))
      refine own_st (fun _ k => XS.lstore X1.here hx rfl (hb hby at_66) rfl (l' := #[.val (.long q1), .second, .val (.long q2), .second, .val (.long q3), .second, .val (.int p4), .val (.long lim), .second, .val (.long a), .second, .val (.long (lim - a)), .second, .val (.long ((q3 &&& (9223372036854775807 : Int64)) - ((q3 &&& (9223372036854775807 : Int64)) / lim) * lim)), .second, .unset]) rfl k) ?_
      show own_Gl _ _ _ _ _ _ _ (T1.setTop (mkF m 68 #[.val (.long q1), .second, .val (.long q2), .second, .val (.long q3), .second, .val (.int p4), .val (.long lim), .second, .val (.long a), .second, .val (.long (lim - a)), .second, .val (.long ((q3 &&& (9223372036854775807 : Int64)) - ((q3 &&& (9223372036854775807 : Int64)) / lim) * lim)), .second, .unset] []))
      refine own_st (fun _ k => XS.iload X1.here hx rfl (hb hby at_68) rfl k) ?_
      show own_Gl _ _ _ _ _ _ _ (T1.setTop (mkF m 70 #[.val (.long q1), .second, .val (.long q2), .second, .val (.long q3), .second, .val (.int p4), .val (.long lim), .second, .val (.long a), .second, .val (.long (lim - a)), .second, .val (.long ((q3 &&& (9223372036854775807 : Int64)) - ((q3 &&& (9223372036854775807 : Int64)) / lim) * lim)), .second, .unset] [(.int p4)]))
      refine own_st (fun _ k => XS.iconst X1.here hx rfl (hb hby at_70) k) ?_
      show own_Gl _ _ _ _ _ _ _ (T1.setTop (mkF m 71 #[.val (.long q1), .second, .val (.long q2), .second, .val (.long q3), .second, .val (.int p4), .val (.long lim), .second, .val (.long a), .second, .val (.long (lim - a)), .second, .val (.long ((q3 &&& (9223372036854775807 : Int64)) - ((q3 &&& (9223372036854775807 : Int64)) / lim) * lim)), .second, .unset] [(.int (2 : Int32)), (.int p4)]))
      refine own_st (fun _ k => XS.iand X1.here hx rfl (hb hby at_71) rfl k) ?_
      show own_Gl _ _ _ _ _ _ _ (T1.setTop (mkF m 72 #[.val (.long q1), .second, .val (.long q2), .second, .val (.long q3), .second, .val (.int p4), .val (.long lim), .second, .val (.long a), .second, .val (.long (lim - a)), .second, .val (.long ((q3 &&& (9223372036854775807 : Int64)) - ((q3 &&& (9223372036854775807 : Int64)) / lim) * lim)), .second, .unset] [(.int (p4 &&& (2 : Int32)))]))
      by_cases hc72 : (p4 &&& (2 : Int32)) = (0 : Int32)
      · refine own_st (fun _ k => XS.ifYes X1.here hx rfl (pc0 := 72) (pc' := 79) rfl (hb hby at_72) rfl ((if0 _ _).trans (teq hc72).1) (by decide) (by decide) k) ?_
        show own_Gl _ _ _ _ _ _ _ (T1.setTop (mkF m 79 #[.val (.long q1), .second, .val (.long q2), .second, .val (.long q3), .second, .val (.int p4), .val (.long lim), .second, .val (.long a), .second, .val (.long (lim - a)), .second, .val (.long ((q3 &&& (9223372036854775807 : Int64)) - ((q3 &&& (9223372036854775807 : Int64)) / lim) * lim)), .second, .unset] []))
        show own_Gl _ _ _ _ _ _ _ (T1.setTop (mkF m 79 #[.val (.long q1), .second, .val (.long q2), .second, .val (.long q3), .second, .val (.int p4), .val (.long lim), .second, .val (.long a), .second, .val (.long (lim - a)), .second, .val (.long ((q3 &&& (9223372036854775807 : Int64)) - ((q3 &&& (9223372036854775807 : Int64)) / lim) * lim)), .second, .unset] []))
        exact J79_2 T1 _ N1 X1 e1 (((q3 &&& (9223372036854775807 : Int64)) - ((q3 &&& (9223372036854775807 : Int64)) / lim) * lim)) (own_rem _ _ hl0 hc50)
      · refine own_st (fun _ k => XS.ifNo X1.here hx rfl (hb hby at_72) rfl ((if0 _ _).trans (feq hc72).1) k) ?_
        show own_Gl _ _ _ _ _ _ _ (T1.setTop (mkF m 75 #[.val (.long q1), .second, .val (.long q2), .second, .val (.long q3), .second, .val (.int p4), .val (.long lim), .second, .val (.long a), .second, .val (.long (lim - a)), .second, .val (.long ((q3 &&& (9223372036854775807 : Int64)) - ((q3 &&& (9223372036854775807 : Int64)) / lim) * lim)), .second, .unset] []))
        refine own_st (fun _ k => XS.lload X1.here hx rfl (hb hby at_75) rfl k) ?_
        show own_Gl _ _ _ _ _ _ _ (T1.setTop (mkF m 77 #[.val (.long q1), .second, .val (.long q2), .second, .val (.long q3), .second, .val (.int p4), .val (.long lim), .second, .val (.long a), .second, .val (.long (lim - a)), .second, .val (.long ((q3 &&& (9223372036854775807 : Int64)) - ((q3 &&& (9223372036854775807 : Int64)) / lim) * lim)), .second, .unset] [(.long lim)]))
        refine own_st (fun _ k => XS.lstore X1.here hx rfl (hb hby at_77) rfl (l' := #[.val (.long q1), .second, .val (.long q2), .second, .val (.long q3), .second, .val (.int p4), .val (.long lim), .second, .val (.long a), .second, .val (.long (lim - a)), .second, .val (.long lim), .second, .unset]) rfl k) ?_
        show own_Gl _ _ _ _ _ _ _ (T1.setTop (mkF m 79 #[.val (.long q1), .second, .val (.long q2), .second, .val (.long q3), .second, .val (.int p4), .val (.long lim), .second, .val (.long a), .second, .val (.long (lim - a)), .second, .val (.long lim), .second, .unset] []))
        show own_Gl _ _ _ _ _ _ _ (T1.setTop (mkF m 79 #[.val (.long q1), .second, .val (.long q2), .second, .val (.long q3), .second, .val (.int p4), .val (.long lim), .second, .val (.long a), .second, .val (.long (lim - a)), .second, .val (.long lim), .second, .unset] []))
        exact J79_2 T1 _ N1 X1 e1 (lim) ⟨hl0, Int.le_refl _⟩
  refine own_st (fun _ k => XS.lload X0.here hx rfl (hb hby at_7) rfl k) ?_
  show own_Gl _ _ _ _ _ _ _ (s₁.setTop (mkF m 9 #[.val (.long q1), .second, .val (.long q2), .second, .val (.long q3), .second, .val (.int p4), .val (.long lim), .second, .unset, .unset, .unset, .unset, .unset, .unset, .unset] [(.long lim)]))
  refine own_st (fun _ k => XS.lconst X0.here hx rfl (hb hby at_9) k) ?_
  show own_Gl _ _ _ _ _ _ _ (s₁.setTop (mkF m 10 #[.val (.long q1), .second, .val (.long q2), .second, .val (.long q3), .second, .val (.int p4), .val (.long lim), .second, .unset, .unset, .unset, .unset, .unset, .unset, .unset] [(.long (0 : Int64)), (.long lim)]))
  refine own_st (fun _ k => XS.lcmp X0.here hx rfl (hb hby at_10) rfl k) ?_
  show own_Gl _ _ _ _ _ _ _ (s₁.setTop (mkF m 11 #[.val (.long q1), .second, .val (.long q2), .second, .val (.long q3), .second, .val (.int p4), .val (.long lim), .second, .unset, .unset, .unset, .unset, .unset, .unset, .unset] [(.int (lcmpW lim (0 : Int64)))]))
  by_cases hc11 : lim = (0 : Int64)
  · refine own_st (fun _ k => XS.ifNo X0.here hx rfl (hb hby at_11) rfl ((if0 _ _).trans (teq ((lw_eq _ _).mpr hc11)).2) k) ?_
    show own_Gl _ _ _ _ _ _ _ (s₁.setTop (mkF m 14 #[.val (.long q1), .second, .val (.long q2), .second, .val (.long q3), .second, .val (.int p4), .val (.long lim), .second, .unset, .unset, .unset, .unset, .unset, .unset, .unset] []))
    refine own_st (fun _ k => XS.lconst X0.here hx rfl (hb hby at_14) k) ?_
    show own_Gl _ _ _ _ _ _ _ (s₁.setTop (mkF m 15 #[.val (.long q1), .second, .val (.long q2), .second, .val (.long q3), .second, .val (.int p4), .val (.long lim), .second, .unset, .unset, .unset, .unset, .unset, .unset, .unset] [(.long (0 : Int64))]))
    refine own_st (fun _ k => XS.goto X0.here hx rfl (pc0 := 15) (pc' := 26) rfl (hb hby at_15) (by decide) (by decide) k) ?_
    show own_Gl _ _ _ _ _ _ _ (s₁.setTop (mkF m 26 #[.val (.long q1), .second, .val (.long q2), .second, .val (.long q3), .second, .val (.int p4), .val (.long lim), .second, .unset, .unset, .unset, .unset, .unset, .unset, .unset] [(.long (0 : Int64))]))
    refine own_st (fun _ k => XS.lstore X0.here hx rfl (hb hby at_26) rfl (l' := #[.val (.long q1), .second, .val (.long q2), .second, .val (.long q3), .second, .val (.int p4), .val (.long lim), .second, .val (.long (0 : Int64)), .second, .unset, .unset, .unset, .unset, .unset]) rfl k) ?_
    show own_Gl _ _ _ _ _ _ _ (s₁.setTop (mkF m 28 #[.val (.long q1), .second, .val (.long q2), .second, .val (.long q3), .second, .val (.int p4), .val (.long lim), .second, .val (.long (0 : Int64)), .second, .unset, .unset, .unset, .unset, .unset] []))
    refine own_st (fun _ k => XS.iload X0.here hx rfl (hb hby at_28) rfl k) ?_
    show own_Gl _ _ _ _ _ _ _ (s₁.setTop (mkF m 30 #[.val (.long q1), .second, .val (.long q2), .second, .val (.long q3), .second, .val (.int p4), .val (.long lim), .second, .val (.long (0 : Int64)), .second, .unset, .unset, .unset, .unset, .unset] [(.int p4)]))
    refine own_st (fun _ k => XS.iconst X0.here hx rfl (hb hby at_30) k) ?_
    show own_Gl _ _ _ _ _ _ _ (s₁.setTop (mkF m 31 #[.val (.long q1), .second, .val (.long q2), .second, .val (.long q3), .second, .val (.int p4), .val (.long lim), .second, .val (.long (0 : Int64)), .second, .unset, .unset, .unset, .unset, .unset] [(.int (1 : Int32)), (.int p4)]))
    refine own_st (fun _ k => XS.iand X0.here hx rfl (hb hby at_31) rfl k) ?_
    show own_Gl _ _ _ _ _ _ _ (s₁.setTop (mkF m 32 #[.val (.long q1), .second, .val (.long q2), .second, .val (.long q3), .second, .val (.int p4), .val (.long lim), .second, .val (.long (0 : Int64)), .second, .unset, .unset, .unset, .unset, .unset] [(.int (p4 &&& (1 : Int32)))]))
    by_cases hc32 : (p4 &&& (1 : Int32)) = (0 : Int32)
    · refine own_st (fun _ k => XS.ifYes X0.here hx rfl (pc0 := 32) (pc' := 39) rfl (hb hby at_32) rfl ((if0 _ _).trans (teq hc32).1) (by decide) (by decide) k) ?_
      show own_Gl _ _ _ _ _ _ _ (s₁.setTop (mkF m 39 #[.val (.long q1), .second, .val (.long q2), .second, .val (.long q3), .second, .val (.int p4), .val (.long lim), .second, .val (.long (0 : Int64)), .second, .unset, .unset, .unset, .unset, .unset] []))
      show own_Gl _ _ _ _ _ _ _ (s₁.setTop (mkF m 39 #[.val (.long q1), .second, .val (.long q2), .second, .val (.long q3), .second, .val (.int p4), .val (.long lim), .second, .val (.long (0 : Int64)), .second, .unset, .unset, .unset, .unset, .unset] []))
      exact J39_1 s₁ _ N0 X0 e0 ((0 : Int64)) ⟨by decide, by rw [own_z]; exact hl0⟩
    · refine own_st (fun _ k => XS.ifNo X0.here hx rfl (hb hby at_32) rfl ((if0 _ _).trans (feq hc32).1) k) ?_
      show own_Gl _ _ _ _ _ _ _ (s₁.setTop (mkF m 35 #[.val (.long q1), .second, .val (.long q2), .second, .val (.long q3), .second, .val (.int p4), .val (.long lim), .second, .val (.long (0 : Int64)), .second, .unset, .unset, .unset, .unset, .unset] []))
      refine own_st (fun _ k => XS.lload X0.here hx rfl (hb hby at_35) rfl k) ?_
      show own_Gl _ _ _ _ _ _ _ (s₁.setTop (mkF m 37 #[.val (.long q1), .second, .val (.long q2), .second, .val (.long q3), .second, .val (.int p4), .val (.long lim), .second, .val (.long (0 : Int64)), .second, .unset, .unset, .unset, .unset, .unset] [(.long lim)]))
      refine own_st (fun _ k => XS.lstore X0.here hx rfl (hb hby at_37) rfl (l' := #[.val (.long q1), .second, .val (.long q2), .second, .val (.long q3), .second, .val (.int p4), .val (.long lim), .second, .val (.long lim), .second, .unset, .unset, .unset, .unset, .unset]) rfl k) ?_
      show own_Gl _ _ _ _ _ _ _ (s₁.setTop (mkF m 39 #[.val (.long q1), .second, .val (.long q2), .second, .val (.long q3), .second, .val (.int p4), .val (.long lim), .second, .val (.long lim), .second, .unset, .unset, .unset, .unset, .unset] []))
      show own_Gl _ _ _ _ _ _ _ (s₁.setTop (mkF m 39 #[.val (.long q1), .second, .val (.long q2), .second, .val (.long q3), .second, .val (.int p4), .val (.long lim), .second, .val (.long lim), .second, .unset, .unset, .unset, .unset, .unset] []))
      exact J39_1 s₁ _ N0 X0 e0 (lim) ⟨hl0, Int.le_refl _⟩
  · refine own_st (fun _ k => XS.ifYes X0.here hx rfl (pc0 := 11) (pc' := 18) rfl (hb hby at_11) rfl ((if0 _ _).trans (feq (mt (lw_eq _ _).mp hc11)).2) (by decide) (by decide) k) ?_
    show own_Gl _ _ _ _ _ _ _ (s₁.setTop (mkF m 18 #[.val (.long q1), .second, .val (.long q2), .second, .val (.long q3), .second, .val (.int p4), .val (.long lim), .second, .unset, .unset, .unset, .unset, .unset, .unset, .unset] []))
    refine own_st (fun _ k => XS.lloadN X0.here hx rfl (hb hby at_18) rfl k) ?_
    show own_Gl _ _ _ _ _ _ _ (s₁.setTop (mkF m 19 #[.val (.long q1), .second, .val (.long q2), .second, .val (.long q3), .second, .val (.int p4), .val (.long lim), .second, .unset, .unset, .unset, .unset, .unset, .unset, .unset] [(.long q2)]))
    refine own_st (X0.ldc2Long hx hown (mvT hZ (hw _ (List.mem_of_getElem? (i := 0) rfl))) (g := (mkF m 19 #[.val (.long q1), .second, .val (.long q2), .second, .val (.long q3), .second, .val (.int p4), .val (.long lim), .second, .unset, .unset, .unset, .unset, .unset, .unset, .unset] [(.long q2)])) rfl (hb hby at_19)) ?_
    show own_Gl _ _ _ _ _ _ _ (s₁.setTop (mkF m 22 #[.val (.long q1), .second, .val (.long q2), .second, .val (.long q3), .second, .val (.int p4), .val (.long lim), .second, .unset, .unset, .unset, .unset, .unset, .unset, .unset] [(.long (9223372036854775807 : Int64)), (.long q2)]))
    refine own_st (fun _ k => XS.land X0.here hx rfl (hb hby at_22) rfl k) ?_
    show own_Gl _ _ _ _ _ _ _ (s₁.setTop (mkF m 23 #[.val (.long q1), .second, .val (.long q2), .second, .val (.long q3), .second, .val (.int p4), .val (.long lim), .second, .unset, .unset, .unset, .unset, .unset, .unset, .unset] [(.long (q2 &&& (9223372036854775807 : Int64)))]))
    refine own_st (fun _ k => XS.lload X0.here hx rfl (hb hby at_23) rfl k) ?_
    show own_Gl _ _ _ _ _ _ _ (s₁.setTop (mkF m 25 #[.val (.long q1), .second, .val (.long q2), .second, .val (.long q3), .second, .val (.int p4), .val (.long lim), .second, .unset, .unset, .unset, .unset, .unset, .unset, .unset] [(.long lim), (.long (q2 &&& (9223372036854775807 : Int64)))]))
    refine own_st (fun _ k => XS.lrem X0.here hx rfl (hb hby at_25) rfl (fun q => hc11 q) k) ?_
    show own_Gl _ _ _ _ _ _ _ (s₁.setTop (mkF m 26 #[.val (.long q1), .second, .val (.long q2), .second, .val (.long q3), .second, .val (.int p4), .val (.long lim), .second, .unset, .unset, .unset, .unset, .unset, .unset, .unset] [(.long ((q2 &&& (9223372036854775807 : Int64)) - ((q2 &&& (9223372036854775807 : Int64)) / lim) * lim))]))
    refine own_st (fun _ k => XS.lstore X0.here hx rfl (hb hby at_26) rfl (l' := #[.val (.long q1), .second, .val (.long q2), .second, .val (.long q3), .second, .val (.int p4), .val (.long lim), .second, .val (.long ((q2 &&& (9223372036854775807 : Int64)) - ((q2 &&& (9223372036854775807 : Int64)) / lim) * lim)), .second, .unset, .unset, .unset, .unset, .unset]) rfl k) ?_
    show own_Gl _ _ _ _ _ _ _ (s₁.setTop (mkF m 28 #[.val (.long q1), .second, .val (.long q2), .second, .val (.long q3), .second, .val (.int p4), .val (.long lim), .second, .val (.long ((q2 &&& (9223372036854775807 : Int64)) - ((q2 &&& (9223372036854775807 : Int64)) / lim) * lim)), .second, .unset, .unset, .unset, .unset, .unset] []))
    refine own_st (fun _ k => XS.iload X0.here hx rfl (hb hby at_28) rfl k) ?_
    show own_Gl _ _ _ _ _ _ _ (s₁.setTop (mkF m 30 #[.val (.long q1), .second, .val (.long q2), .second, .val (.long q3), .second, .val (.int p4), .val (.long lim), .second, .val (.long ((q2 &&& (9223372036854775807 : Int64)) - ((q2 &&& (9223372036854775807 : Int64)) / lim) * lim)), .second, .unset, .unset, .unset, .unset, .unset] [(.int p4)]))
    refine own_st (fun _ k => XS.iconst X0.here hx rfl (hb hby at_30) k) ?_
    show own_Gl _ _ _ _ _ _ _ (s₁.setTop (mkF m 31 #[.val (.long q1), .second, .val (.long q2), .second, .val (.long q3), .second, .val (.int p4), .val (.long lim), .second, .val (.long ((q2 &&& (9223372036854775807 : Int64)) - ((q2 &&& (9223372036854775807 : Int64)) / lim) * lim)), .second, .unset, .unset, .unset, .unset, .unset] [(.int (1 : Int32)), (.int p4)]))
    refine own_st (fun _ k => XS.iand X0.here hx rfl (hb hby at_31) rfl k) ?_
    show own_Gl _ _ _ _ _ _ _ (s₁.setTop (mkF m 32 #[.val (.long q1), .second, .val (.long q2), .second, .val (.long q3), .second, .val (.int p4), .val (.long lim), .second, .val (.long ((q2 &&& (9223372036854775807 : Int64)) - ((q2 &&& (9223372036854775807 : Int64)) / lim) * lim)), .second, .unset, .unset, .unset, .unset, .unset] [(.int (p4 &&& (1 : Int32)))]))
    by_cases hc32 : (p4 &&& (1 : Int32)) = (0 : Int32)
    · refine own_st (fun _ k => XS.ifYes X0.here hx rfl (pc0 := 32) (pc' := 39) rfl (hb hby at_32) rfl ((if0 _ _).trans (teq hc32).1) (by decide) (by decide) k) ?_
      show own_Gl _ _ _ _ _ _ _ (s₁.setTop (mkF m 39 #[.val (.long q1), .second, .val (.long q2), .second, .val (.long q3), .second, .val (.int p4), .val (.long lim), .second, .val (.long ((q2 &&& (9223372036854775807 : Int64)) - ((q2 &&& (9223372036854775807 : Int64)) / lim) * lim)), .second, .unset, .unset, .unset, .unset, .unset] []))
      show own_Gl _ _ _ _ _ _ _ (s₁.setTop (mkF m 39 #[.val (.long q1), .second, .val (.long q2), .second, .val (.long q3), .second, .val (.int p4), .val (.long lim), .second, .val (.long ((q2 &&& (9223372036854775807 : Int64)) - ((q2 &&& (9223372036854775807 : Int64)) / lim) * lim)), .second, .unset, .unset, .unset, .unset, .unset] []))
      exact J39_1 s₁ _ N0 X0 e0 (((q2 &&& (9223372036854775807 : Int64)) - ((q2 &&& (9223372036854775807 : Int64)) / lim) * lim)) (own_rem _ _ hl0 hc11)
    · refine own_st (fun _ k => XS.ifNo X0.here hx rfl (hb hby at_32) rfl ((if0 _ _).trans (feq hc32).1) k) ?_
      show own_Gl _ _ _ _ _ _ _ (s₁.setTop (mkF m 35 #[.val (.long q1), .second, .val (.long q2), .second, .val (.long q3), .second, .val (.int p4), .val (.long lim), .second, .val (.long ((q2 &&& (9223372036854775807 : Int64)) - ((q2 &&& (9223372036854775807 : Int64)) / lim) * lim)), .second, .unset, .unset, .unset, .unset, .unset] []))
      refine own_st (fun _ k => XS.lload X0.here hx rfl (hb hby at_35) rfl k) ?_
      show own_Gl _ _ _ _ _ _ _ (s₁.setTop (mkF m 37 #[.val (.long q1), .second, .val (.long q2), .second, .val (.long q3), .second, .val (.int p4), .val (.long lim), .second, .val (.long ((q2 &&& (9223372036854775807 : Int64)) - ((q2 &&& (9223372036854775807 : Int64)) / lim) * lim)), .second, .unset, .unset, .unset, .unset, .unset] [(.long lim)]))
      refine own_st (fun _ k => XS.lstore X0.here hx rfl (hb hby at_37) rfl (l' := #[.val (.long q1), .second, .val (.long q2), .second, .val (.long q3), .second, .val (.int p4), .val (.long lim), .second, .val (.long lim), .second, .unset, .unset, .unset, .unset, .unset]) rfl k) ?_
      show own_Gl _ _ _ _ _ _ _ (s₁.setTop (mkF m 39 #[.val (.long q1), .second, .val (.long q2), .second, .val (.long q3), .second, .val (.int p4), .val (.long lim), .second, .val (.long lim), .second, .unset, .unset, .unset, .unset, .unset] []))
      show own_Gl _ _ _ _ _ _ _ (s₁.setTop (mkF m 39 #[.val (.long q1), .second, .val (.long q2), .second, .val (.long q3), .second, .val (.int p4), .val (.long lim), .second, .val (.long lim), .second, .unset, .unset, .unset, .unset, .unset] []))
      exact J39_1 s₁ _ N0 X0 e0 (lim) ⟨hl0, Int.le_refl _⟩
set_option maxRecDepth 65536 in
set_option maxHeartbeats 40000000 in
theorem comes_1 {Post : Tables → Env → Array Value → State → Outcome → State → Prop} (hpost : ∀ tb e args s v u, (limb_1_1.after args s (.returned v) u = true ∧ limb_1_2.after args s (.returned v) u = true ∧ True) → FrameEnd s (.returned v) u (Jvm.fieldLocs frame_1_writes args s ++ Jvm.arrayLocs frame_1_arrays args s ++ Jvm.staticLocs frame_1_statics s) 16 128 → Post tb e args s (.returned v) u) :
    ArmFor flags0 classFile x code maxLocals ret World_1 tables_1 room_1 Calls_1 rest_1 Pre_1 Post := by
  intro l hfl _ _ p e ha hc hk s m args below hf hA hF happ hP
  obtain ⟨hcalls, hrest, hpre⟩ := hP
  obtain ⟨-, -, -, hnamed, -, -, -, hat⟩ := (Spec.applies_iff hf).mp happ
  obtain ⟨hg, hn⟩ := and_e (Cond.before_iff.mp (show (Jvm.Cond.and given_1 narrow_1).before args s = true from hpre))
  obtain ⟨gg1, gg2⟩ := and_e hg
  obtain ⟨gg3, gg4⟩ := and_e gg2
  obtain ⟨gg5, gg6⟩ := and_e gg4
  obtain ⟨gg7, gg8⟩ := and_e gg6
  obtain ⟨w0, w1, w2, w3, rfl⟩ : ∃ w0 w1 w2 w3 : Value, args = #[w0, w1, w2, w3] := by
    have hs : args.size = 4 := by simpa [Cond.value, given_1] using gg1
    obtain ⟨L⟩ := args
    match L, hs with
    | [w0, w1, w2, w3], _ => exact ⟨w0, w1, w2, w3, rfl⟩
  have hw := fun d (hd : d ∈ tables_1) => atoms_spec (ws := Jvm.Cond.code x code maxLocals ret :: tables_1) hat d (List.mem_cons_of_mem _ hd)
  have hfit : Fit s := fun {y c} hc i hi => by
    obtain ⟨ha, rfl⟩ := Array.getElem?_eq_some_iff.mp hc
    have q := List.all_eq_true.mp ((Array.all_eq_true_iff_forall_mem.mp hF) _ (Array.getElem_mem ha)) i (List.mem_range.mpr hi)
    simpa [Array.getElem?_eq_getElem hi] using q
  obtain ⟨i0, ei0⟩ := isL_v gg3
  obtain rfl : w0 = (.long i0) := Option.some.inj ei0
  obtain ⟨i1, ei1⟩ := isL_v gg5
  obtain rfl : w1 = (.long i1) := Option.some.inj ei1
  obtain ⟨i2, ei2⟩ := isL_v gg7
  obtain rfl : w2 = (.long i2) := Option.some.inj ei2
  obtain ⟨i3, ei3⟩ := is_v gg8
  obtain rfl : w3 = (.int i3) := Option.some.inj ei3
  obtain ⟨n, o, h1, h2, h3, _, L, rfl, ⟨rfl, N⟩, hq⟩ := own_law l s _ hw tables_1 i0 i1 i2 i3  s.heap s.heap.size (Nat.le_refl _)  p e ha hc hk s m _ below hf ((Spec.applies_iff_loose hf).mp happ).1 ⟨rfl, State.Warmed39.refl s, rfl⟩ trivial
  refine ⟨n, _, h1, h2, h3, hpost _ _ _ _ _ _ ⟨Cond.after_iff.mpr rfl, Cond.after_iff.mpr (eq_i res_at (Term.int_eval (1)) rfl), trivial⟩ ⟨hq.1, hq.2.1, (hq.2.2.sift fun y hy => Or.inr (N y hy)).mono (by decide) (by decide)⟩⟩
theorem main_1_1 : Claimed_1_1 := comes_1 fun _ _ _ _ _ _ h hF => ⟨h.1, hF⟩
theorem main_1_2 : Claimed_1_2 := comes_1 fun _ _ _ _ _ _ h hF => ⟨h.2.1, hF⟩

end Jvm.Pilot.@@N@@
namespace Jvm.Pilot.@@N@@
open Jvm Jvm.ClassFile Sem Op Lib Jvm.Free Jvm.Stand Jvm.Pilot.@@N@@.Jvm.D
/-! MADE BY PROGRAM (witnessworld.py) out of the Statement's table words and the real class files: 9 classes; the members and pool entries that the words name. The judged class is class 1, her method 1. -/
namespace start1
open Jvm.ClassFile
def u (s : String) : CpInfo := .utf8 (stringToUtf16 s)
/-- a pool by its gaps: so many unusable entries, then the entry; so many at the end -/
def gap : Nat → List CpInfo → List CpInfo
  | 0, r => r
  | n + 1, r => .unusable :: gap n r
def poolList (es : List (Nat × CpInfo)) (last : Nat) : List CpInfo := es.foldr (fun e r => gap e.1 (e.2 :: r)) (gap last [])
def pool (es : List (Nat × CpInfo)) (last : Nat) : Array CpInfo := ⟨poolList es last⟩
def fileOf (pool : Array CpInfo) (this : Nat) (attrs : Array Attribute := #[]) (ms : Array MethodInfo := #[]) (fl : Nat := 33) (sup : Nat := 0) (ifs : Array Nat := #[]) (fds : Array FieldInfo := #[]) : ClassFile where
  minorVersion := 0
  majorVersion := 65
  constantPool := pool
  accessFlags := fl
  thisClass := this
  superClass := sup
  interfaces := ifs
  fields := fds
  methods := ms
  attributes := attrs
def plain (name : String) (sup : Option ClassId) : Class where
  name := name
  kind := .ordinary
  loader := none
  accessFlags := 33
  super := sup
  interfaces := #[]
  cf := none
  fields := #[]
  methods := #[]
  instanceTypes := #[]
  staticTypes := #[]
  resolved := #[]
  callSites := []
  init := .initialized
  statics := none
  mirror := none

def pool0 : Array CpInfo := pool [(5, u "<init>"), (0, u "()V"), (1, .class_ 10), (1, u "java/lang/Object")] 113

def k0c0 : Code := { maxStack := 0, maxLocals := 1, code := object_method_1_code, exceptionTable := #[], attributes := #[] }
def k0m0 : Method := { name := "<init>", desc := "()V", sig := { parameters := [], returnType := none }, accessFlags := 1, code := some k0c0 }
/-- java/lang/Object -/
def k0 : Class := { plain "java/lang/Object" none with
  accessFlags := 33
  interfaces := #[]
  cf := some (fileOf pool0 8 #[] #[{ accessFlags := 1, nameIndex := 5, descriptorIndex := 6, attributes := #[] }] 33 0 #[] #[])
  fields := #[]
  methods := #[k0m0]
  instanceTypes := #[]
  staticTypes := #[]
  resolved := Array.replicate 124 none
  statics := none }

def pool1 : Array CpInfo := pool [(2, .class_ 4), (1, u "java/lang/Object"), (0, u "<init>"), (0, u "()V"), (2, .long 9223372036854775807), (1, .class_ 12), (0, u "com/example/dessin/dessin/MemoryBudget"), (0, .methodref 11 14), (0, .nameAndType 5 15), (0, u "(J)V"), (0, .methodref 11 17), (0, .nameAndType 18 15), (0, u "take"), (0, .methodref 11 20), (0, .nameAndType 21 15), (0, u "giveBack"), (0, .methodref 11 23), (0, .nameAndType 24 25), (0, u "limit"), (0, u "()J"), (0, .class_ 27), (0, u "com/example/dessin/dessin/MemoryBudgetTakePinLaw"), (2, u "law"), (0, u "(JJJI)Z")] 3

def k1m0 : Method := { name := "<init>", desc := "()V", sig := { parameters := [], returnType := none }, accessFlags := 2, code := none }
def k1c1 : Code := { maxStack := 4, maxLocals := 16, code := code, exceptionTable := #[], attributes := #[] }
def k1m1 : Method := { name := "law", desc := "(JJJI)Z", sig := { parameters := [.long, .long, .long, .int], returnType := some .boolean }, accessFlags := 9, code := some k1c1 }
/-- com/example/dessin/dessin/MemoryBudgetTakePinLaw -/
def k1 : Class := { plain "com/example/dessin/dessin/MemoryBudgetTakePinLaw" (some 0) with
  accessFlags := 49
  interfaces := #[]
  cf := some (fileOf pool1 26 #[] #[{ accessFlags := 2, nameIndex := 5, descriptorIndex := 6, attributes := #[] }, { accessFlags := 9, nameIndex := 30, descriptorIndex := 31, attributes := #[] }] 49 2 #[] #[])
  fields := #[]
  methods := #[k1m0, k1m1]
  instanceTypes := #[]
  staticTypes := #[]
  resolved := Array.replicate 35 none
  statics := none }

def pool2 : Array CpInfo := pool [(1, .methodref 2 3), (0, .class_ 4), (0, .nameAndType 5 6), (0, u "java/lang/Object"), (0, u "<init>"), (0, u "()V"), (0, .fieldref 8 9), (0, .class_ 10), (0, .nameAndType 11 12), (0, u "com/example/dessin/dessin/MemoryBudget"), (0, u "limit"), (0, u "J"), (0, .fieldref 8 14), (0, .nameAndType 15 12), (0, u "taken"), (0, .class_ 17), (0, u "com/example/dessin/dessin/MemoryBudget$Spent"), (1, u "INSPECTION_BYTES"), (3, u "CHAR_BYTES"), (2, u "(J)V"), (2, u "take"), (1, u "giveBack"), (0, u "()J")] 5

def k2c0 : Code := { maxStack := 3, maxLocals := 3, code := prog_29_method_1_code, exceptionTable := #[], attributes := #[] }
def k2m0 : Method := { name := "<init>", desc := "(J)V", sig := { parameters := [.long], returnType := none }, accessFlags := 0, code := some k2c0 }
def k2c1 : Code := { maxStack := 6, maxLocals := 3, code := prog_29_method_2_code, exceptionTable := #[], attributes := #[] }
def k2m1 : Method := { name := "take", desc := "(J)V", sig := { parameters := [.long], returnType := none }, accessFlags := 0, code := some k2c1 }
def k2c2 : Code := { maxStack := 5, maxLocals := 3, code := prog_29_method_3_code, exceptionTable := #[], attributes := #[] }
def k2m2 : Method := { name := "giveBack", desc := "(J)V", sig := { parameters := [.long], returnType := none }, accessFlags := 0, code := some k2c2 }
def k2c3 : Code := { maxStack := 2, maxLocals := 1, code := prog_29_method_4_code, exceptionTable := #[], attributes := #[] }
def k2m3 : Method := { name := "limit", desc := "()J", sig := { parameters := [], returnType := some .long }, accessFlags := 0, code := some k2c3 }
/-- com/example/dessin/dessin/MemoryBudget -/
def k2 : Class := { plain "com/example/dessin/dessin/MemoryBudget" (some 0) with
  accessFlags := 48
  interfaces := #[]
  cf := some (fileOf pool2 8 #[.nestMembers #[16]] #[{ accessFlags := 0, nameIndex := 5, descriptorIndex := 26, attributes := #[] }, { accessFlags := 0, nameIndex := 29, descriptorIndex := 26, attributes := #[] }, { accessFlags := 0, nameIndex := 31, descriptorIndex := 26, attributes := #[] }, { accessFlags := 0, nameIndex := 11, descriptorIndex := 32, attributes := #[] }] 48 2 #[] #[{ accessFlags := 24, nameIndex := 19, descriptorIndex := 12, attributes := #[] }, { accessFlags := 24, nameIndex := 23, descriptorIndex := 12, attributes := #[] }, { accessFlags := 18, nameIndex := 11, descriptorIndex := 12, attributes := #[] }, { accessFlags := 2, nameIndex := 15, descriptorIndex := 12, attributes := #[] }])
  fields := #[{ name := "INSPECTION_BYTES", type := .long, accessFlags := 24, slot := 0, constantValue := 0 }, { name := "CHAR_BYTES", type := .long, accessFlags := 24, slot := 1, constantValue := 0 }, { name := "limit", type := .long, accessFlags := 18, slot := 0, constantValue := 0 }, { name := "taken", type := .long, accessFlags := 2, slot := 1, constantValue := 0 }]
  methods := #[k2m0, k2m1, k2m2, k2m3]
  instanceTypes := #[.long, .long]
  staticTypes := #[.long, .long]
  resolved := Array.replicate 38 none
  statics := none }

def pool3 : Array CpInfo := pool [(1, u "java/lang/Cloneable"), (0, .class_ 1), (0, u "java/lang/Object"), (0, .class_ 3)] 3

/-- java/lang/Cloneable -/
def k3 : Class := { plain "java/lang/Cloneable" (some 0) with
  accessFlags := 1537
  interfaces := #[]
  cf := some (fileOf pool3 2 #[] #[] 1537 4 #[] #[])
  fields := #[]
  methods := #[]
  instanceTypes := #[]
  staticTypes := #[]
  resolved := Array.replicate 8 none
  statics := none }

def pool4 : Array CpInfo := pool [(1, u "java/io/Serializable"), (0, .class_ 1), (0, u "java/lang/Object"), (0, .class_ 3)] 3

/-- java/io/Serializable -/
def k4 : Class := { plain "java/io/Serializable" (some 0) with
  accessFlags := 1537
  interfaces := #[]
  cf := some (fileOf pool4 2 #[] #[] 1537 4 #[] #[])
  fields := #[]
  methods := #[]
  instanceTypes := #[]
  staticTypes := #[]
  resolved := Array.replicate 8 none
  statics := none }

/-- the primitive byte -/
def k5 : Class := { plain "byte" none with kind := .primitive 'B', accessFlags := 0x411 }
/-- [B -/
def k6 : Class := { plain "[B" (some 0) with kind := .array 5 .byte, interfaces := #[3, 4], accessFlags := 1041 }

/-- the primitive int -/
def k7 : Class := { plain "int" none with kind := .primitive 'I', accessFlags := 0x411 }
/-- [I -/
def k8 : Class := { plain "[I" (some 0) with kind := .array 7 .int, interfaces := #[3, 4], accessFlags := 1041 }

def heap : Heap := #[]
def classes : Array Class := #[k0, k1, k2, k3, k4, k5, k6, k7, k8]
def interned : List (Array UInt16 × Addr) := []
def slotsUsed : Nat := 0
def theMethod : MethodId := ⟨1, 1⟩
def args0 : Array Value := #[.long 5, .long 7, .long 9, .int 0]
def aboutOver (below : List Frame) : State where
  vm := { classes := classes, interned := interned.toArray }
  heap := heap
  slotsUsed := slotsUsed
  threads := #[{ frames := .invoking theMethod args0 :: below }]
def below0 : List Frame := [.native { method := ⟨0, 0⟩, args := #[] }]
def about1 : State := aboutOver below0
def p0 : Program := .bare "" "" ""
def e0 : Env := launch0.env 0 0 0
theorem w_frames : about1.frames = Frame.invoking theMethod args0 :: below0 := rfl
set_option maxRecDepth 65536 in
theorem w_args : argsFit about1.vm theMethod args0 = true := by decide +kernel
set_option maxRecDepth 65536 in
theorem w_heap : heapFits about1 = true := by decide +kernel
set_option maxRecDepth 65536 in
theorem w_runnable : about1.curStatus? = some .runnable := by decide +kernel
set_option maxRecDepth 65536 in
theorem w_alone : about1.alone = true := by decide +kernel
set_option maxRecDepth 65536 in
theorem w_named : about1.methodNamed? x = some theMethod := by decide +kernel
set_option maxRecDepth 65536 in
theorem w_hears : about1.hears theMethod below0 = true := by decide +kernel
set_option maxRecDepth 65536 in
theorem w_ripe : about1.ripe theMethod args0 below0 = true := by decide +kernel
theorem w_running : about1.status = .running := rfl
set_option maxRecDepth 65536 in
theorem w_room : about1.hasRoom e0.platform room_1 = true :=
  launch0.hasRoom_least _ room_1 (by decide +kernel) (by decide +kernel) (by decide +kernel) (by decide +kernel) (by decide +kernel) (by decide +kernel)
theorem allAtoms_all (ts : List Jvm.Cond) (a : Array Jvm.Value) (st : Jvm.State) : (allAtoms ts).before a st = ts.all (fun c => c.before a st) := by
  induction ts with
  | nil => rfl
  | cons c t ih =>
    show (Jvm.Cond.and c (allAtoms t)).before a st = _
    rw [Jvm.Cond.before_and, ih, List.all_cons]
def words1 : List Jvm.Cond := Jvm.Cond.code x code maxLocals ret :: tables_1
/-- a 'code' word, met by the world's own term for the bytes: nothing is compared byte by byte -/
theorem code_word {y : MethodName} {bytes : ByteArray} {mx : Nat} {rt : Option FieldType} {a : Array Value} {s : State} {m : MethodId} {meth : Method} {c : Code} (h1 : s.methodNamed? y = some m) (h2 : s.vm.method? m = some meth) (h3 : meth.code = some c) (h4 : c.code = bytes)
    (h5 : (c.maxLocals == mx && c.exceptionTable.isEmpty && decide (c.maxStack ≤ mostOperands) && decide (meth.sig.returnType = rt) && !meth.locks && decide (parseMethodDescriptor y.desc = some meth.sig)) = true) : (Jvm.Cond.code y bytes mx rt).before a s = true := by
  simp only [Bool.and_eq_true, beq_iff_eq, Bool.not_eq_true', decide_eq_true_eq] at h5
  obtain ⟨⟨⟨⟨⟨g1, g2⟩, g3⟩, g4⟩, g5⟩, g6⟩ := h5
  simp [Cond.before, Cond.holds, Cond.value, h1, h2, h3, h4, g1, g2, g3, g4, g5, g6]
def isCode : Jvm.Cond → Bool
  | .code _ _ _ _ => true
  | _ => false
theorem all_split {L : List Jvm.Cond} {P : Jvm.Cond → Bool} (h1 : L.all (fun c => isCode c || P c) = true) (h2 : ∀ c ∈ L.filter isCode, P c = true) : L.all P = true := by
  refine List.all_eq_true.mpr fun c hc => ?_
  have h := List.all_eq_true.mp h1 c hc
  rcases Bool.eq_false_or_eq_true (isCode c) with hi | hi
  · exact h2 c (List.mem_filter.mpr ⟨hc, hi⟩)
  · simpa [hi] using h
set_option maxRecDepth 65536 in
theorem w_c0 : (Jvm.Cond.code x code maxLocals ret).before args0 about1 = true := code_word (m := ⟨1, 1⟩) (meth := k1m1) (c := k1c1) (by decide +kernel) rfl rfl rfl (by decide +kernel)
set_option maxRecDepth 65536 in
theorem w_c1 : (Jvm.Cond.code ({ cls := "com/example/dessin/dessin/MemoryBudget", name := "<init>", desc := "(J)V" } : Jvm.MethodName) prog_29_method_1_code (3 : Nat) (Option.none : Option Jvm.ClassFile.FieldType)).before args0 about1 = true := code_word (m := ⟨2, 0⟩) (meth := k2m0) (c := k2c0) (by decide +kernel) rfl rfl rfl (by decide +kernel)
set_option maxRecDepth 65536 in
theorem w_c2 : (Jvm.Cond.code ({ cls := "java/lang/Object", name := "<init>", desc := "()V" } : Jvm.MethodName) object_method_1_code (1 : Nat) (Option.none : Option Jvm.ClassFile.FieldType)).before args0 about1 = true := code_word (m := ⟨0, 0⟩) (meth := k0m0) (c := k0c0) (by decide +kernel) rfl rfl rfl (by decide +kernel)
set_option maxRecDepth 65536 in
theorem w_c3 : (Jvm.Cond.code ({ cls := "com/example/dessin/dessin/MemoryBudget", name := "take", desc := "(J)V" } : Jvm.MethodName) prog_29_method_2_code (3 : Nat) (Option.none : Option Jvm.ClassFile.FieldType)).before args0 about1 = true := code_word (m := ⟨2, 1⟩) (meth := k2m1) (c := k2c1) (by decide +kernel) rfl rfl rfl (by decide +kernel)
set_option maxRecDepth 65536 in
theorem w_c4 : (Jvm.Cond.code ({ cls := "com/example/dessin/dessin/MemoryBudget", name := "giveBack", desc := "(J)V" } : Jvm.MethodName) prog_29_method_3_code (3 : Nat) (Option.none : Option Jvm.ClassFile.FieldType)).before args0 about1 = true := code_word (m := ⟨2, 2⟩) (meth := k2m2) (c := k2c2) (by decide +kernel) rfl rfl rfl (by decide +kernel)
set_option maxRecDepth 65536 in
theorem w_c5 : (Jvm.Cond.code ({ cls := "com/example/dessin/dessin/MemoryBudget", name := "limit", desc := "()J" } : Jvm.MethodName) prog_29_method_4_code (1 : Nat) (Option.some Jvm.ClassFile.FieldType.long)).before args0 about1 = true := code_word (m := ⟨2, 3⟩) (meth := k2m3) (c := k2c3) (by decide +kernel) rfl rfl rfl (by decide +kernel)
def codes1 : List Jvm.Cond := [Jvm.Cond.code x code maxLocals ret, Jvm.Cond.code ({ cls := "com/example/dessin/dessin/MemoryBudget", name := "<init>", desc := "(J)V" } : Jvm.MethodName) prog_29_method_1_code (3 : Nat) (Option.none : Option Jvm.ClassFile.FieldType), Jvm.Cond.code ({ cls := "java/lang/Object", name := "<init>", desc := "()V" } : Jvm.MethodName) object_method_1_code (1 : Nat) (Option.none : Option Jvm.ClassFile.FieldType), Jvm.Cond.code ({ cls := "com/example/dessin/dessin/MemoryBudget", name := "take", desc := "(J)V" } : Jvm.MethodName) prog_29_method_2_code (3 : Nat) (Option.none : Option Jvm.ClassFile.FieldType), Jvm.Cond.code ({ cls := "com/example/dessin/dessin/MemoryBudget", name := "giveBack", desc := "(J)V" } : Jvm.MethodName) prog_29_method_3_code (3 : Nat) (Option.none : Option Jvm.ClassFile.FieldType), Jvm.Cond.code ({ cls := "com/example/dessin/dessin/MemoryBudget", name := "limit", desc := "()J" } : Jvm.MethodName) prog_29_method_4_code (1 : Nat) (Option.some Jvm.ClassFile.FieldType.long)]
set_option maxRecDepth 65536 in
theorem codes_eq : words1.filter isCode = codes1 := rfl
theorem w_codes : ∀ c ∈ words1.filter isCode, c.before args0 about1 = true := by
  rw [codes_eq]
  intro c hc
  simp only [codes1, List.mem_cons, List.not_mem_nil, or_false] at hc
  rcases hc with rfl | rfl | rfl | rfl | rfl | rfl
  · exact w_c0
  · exact w_c1
  · exact w_c2
  · exact w_c3
  · exact w_c4
  · exact w_c5
set_option maxRecDepth 65536 in
theorem w_t1 : (words1.take 24).all (fun c => isCode c || c.before args0 about1) = true := by decide +kernel
set_option maxRecDepth 65536 in
theorem w_t2 : (words1.drop 24).all (fun c => isCode c || c.before args0 about1) = true := by decide +kernel
theorem w_tables : (allAtoms (Jvm.Cond.code x code maxLocals ret :: tables_1)).before args0 about1 = true := by
  rw [allAtoms_all]
  show words1.all (fun c => c.before args0 about1) = true
  refine all_split ?_ w_codes
  rw [← List.take_append_drop 24 words1, List.all_append, w_t1, w_t2]
  rfl
set_option maxRecDepth 65536 in
theorem w_case : (Jvm.Cond.and given_1 narrow_1).before args0 about1 = true := by decide +kernel
theorem w_applies : (headSpec (Jvm.Cond.code x code maxLocals ret :: tables_1) room_1).applies x e0.platform about1 = true :=
  (Spec.applies_iff w_frames).mpr ⟨w_running, w_runnable, w_alone, w_named, w_hears, w_ripe, w_room, w_tables⟩
theorem atStart : AtStart classFile x code maxLocals ret World_1 tables_1 room_1 Calls_1 rest_1 Pre_1 launch0 p0 e0 about1 theMethod args0 below0 :=
  ⟨lists_1, trivial, launch0.admits_env _ _ _, launch0.least_env, fairChoices_fair.cas, fairChoices_fair.clock, w_frames, w_args, w_heap, w_applies, trivial, trivial, w_case⟩
end start1
theorem witness_1 : WitnessClaimed_1 := ⟨start1.p0, start1.e0, start1.about1, start1.theMethod, start1.args0, start1.below0, start1.atStart⟩
end Jvm.Pilot.@@N@@
