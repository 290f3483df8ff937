import JvmDerived
import JvmDerived.Pilot.@@N@@Statement
import JvmDerived.Pilot.@@N@@Code
set_option linter.unusedVariables false
set_option linter.unusedSimpArgs false

namespace Jvm.Pilot.@@N@@
open Jvm Jvm.ClassFile Sem Op Lib Jvm.Free Jvm.Stand Jvm.LawKit Jvm.RoadKit Bundle Jvm.Pilot.@@N@@.Jvm.D


section OwnKit
variable {p : Program} {l : Launch} {e : Env} {R : Room} {s : State} {m : MethodId} {args : Array Value} {below : List Frame} {meth : Method} {c : Code} {T : State} {locs : List Loc} {cells slots : Nat} {h : Heap} {Q : Option Value → Heap → List Loc → Prop} {C S : Nat}
/-- from the state t the run comes to its end, and what it leaves answers Q -/
def own_Gl (p : Program) (e : Env) (below : List Frame) (s : State) (Q : Option Value → Heap → List Loc → Prop) (C S : Nat) (t : State) : Prop :=
  ∃ s₂ o, Steps p.tables e below t s₂ ∧ s₂.status = .running ∧ Ended s₂ below o ∧ ∃ v L, o = .returned v ∧ Q v s₂.heap L ∧ FrameEnd s o s₂ L C S
theorem own_st {t t' : State} (k : ∀ target, Steps p.tables e below t' target → Steps p.tables e below t target) (d : own_Gl p e below s Q C S t') : own_Gl p e below s Q C S t := by
  obtain ⟨s₂, o, h1, h2⟩ := d
  exact ⟨s₂, o, k _ h1, h2⟩
theorem own_tr {t t' : State} (k : Steps p.tables e below t t') (d : own_Gl p e below s Q C S t') : own_Gl p e below s Q C S t := own_st (fun _ h => k.trans h) d
theorem own_cast {g g' : JFrame} (q : g = g') (d : own_Gl p e below s Q C S (T.setTop g')) : own_Gl p e below s Q C S (T.setTop g) := q ▸ d
theorem own_ret (X : Stand p l e R s m args below meth c T locs cells slots) (hlk : meth.locks = false) {v : Option Value} {t : State} (hv : meth.sig.returnType = none → v = none) (eT : T.heap = h) (hq : Q v h locs) (hc : cells ≤ C) (hs : slots ≤ S)
    (k : ∀ fs, (∀ (f : JFrame) (acts : List Action), f.method = m → f.locked = none → f.entered = [] → (doReturn e (T.setTop f) acts v).1 = T.setFrames fs) → Steps p.tables e below t (T.setFrames fs)) : own_Gl p e below s Q C S t := by
  obtain ⟨fs, hr, hrun, hended, hW, hsame⟩ := X.leave hv hlk
  exact ⟨_, _, k fs hr, hrun, hended, v, locs, rfl, by show Q v T.heap locs; rw [eT]; exact hq, ⟨_, rfl⟩, hW, hsame.mono hc hs⟩
theorem own_retI (X : Stand p l e R s m args below meth c T locs cells slots) (hx : p.tables.exec = Jvm.exec) (hlk : meth.locks = false) {pc : Nat} {Ls : Array Slot} {z : Int32} {rest : List Value} (hret : meth.sig.returnType = some .int) (hd : decode c.code pc = .ok (.ireturn, 1)) (eT : T.heap = h) (hq : Q (some (.int z)) h locs) (hc : cells ≤ C) (hs : slots ≤ S) :
    own_Gl p e below s Q C S (T.setTop (mkF m pc Ls (.int z :: rest))) :=
  own_ret X hlk (fun q => by rw [hret] at q; cases q) eT hq hc hs (fun _ hr => retOut X hx hret rfl (Or.inl ⟨rfl, Or.inl rfl, _, rfl⟩) hd hr)
theorem own_retN (X : Stand p l e R s m args below meth c T locs cells slots) (hx : p.tables.exec = Jvm.exec) (hlk : meth.locks = false) {pc : Nat} {Ls : Array Slot} {z : Int32} {t : FieldType} {rest : List Value} (hret : meth.sig.returnType = some t) (ht : t = .boolean ∨ t = .byte ∨ t = .char ∨ t = .short) (hd : decode c.code pc = .ok (.ireturn, 1)) (eT : T.heap = h) (hq : Q (some (.int (nar t z))) h locs) (hc : cells ≤ C) (hs : slots ≤ S) :
    own_Gl p e below s Q C S (T.setTop (mkF m pc Ls (.int z :: rest))) :=
  own_ret X hlk (fun q => by rw [hret] at q; cases q) eT hq hc hs (fun _ hr => retN X hx hret ht hd hr)
theorem own_retJ (X : Stand p l e R s m args below meth c T locs cells slots) (hx : p.tables.exec = Jvm.exec) (hlk : meth.locks = false) {pc : Nat} {Ls : Array Slot} {z : Int64} {rest : List Value} (hret : meth.sig.returnType = some .long) (hd : decode c.code pc = .ok (.lreturn, 1)) (eT : T.heap = h) (hq : Q (some (.long z)) h locs) (hc : cells ≤ C) (hs : slots ≤ S) :
    own_Gl p e below s Q C S (T.setTop (mkF m pc Ls (.long z :: rest))) :=
  own_ret X hlk (fun q => by rw [hret] at q; cases q) eT hq hc hs (fun _ hr => retOut X hx hret rfl (Or.inr (Or.inl ⟨rfl, rfl, _, rfl⟩)) hd hr)
theorem own_retA (X : Stand p l e R s m args below meth c T locs cells slots) (hx : p.tables.exec = Jvm.exec) (hlk : meth.locks = false) {pc : Nat} {Ls : Array Slot} {w : Value} {t : FieldType} {rest : List Value} (hret : meth.sig.returnType = some t) (ht : t.isReference = true) (hw : w.isRef = true) (hn : narrow t w = w) (hd : decode c.code pc = .ok (.areturn, 1)) (eT : T.heap = h) (hq : Q (some w) h locs) (hc : cells ≤ C) (hs : slots ≤ S) :
    own_Gl p e below s Q C S (T.setTop (mkF m pc Ls (w :: rest))) :=
  own_ret X hlk (fun q => by rw [hret] at q; cases q) eT hq hc hs (fun _ hr => retOut X hx hret hn (Or.inr (Or.inr (Or.inr (Or.inr ⟨rfl, ht, hw⟩)))) hd hr)
theorem own_retV (X : Stand p l e R s m args below meth c T locs cells slots) (hx : p.tables.exec = Jvm.exec) (hlk : meth.locks = false) {pc : Nat} {Ls : Array Slot} (hret : meth.sig.returnType = none) (hd : decode c.code pc = .ok (.return_, 1)) (eT : T.heap = h) (hq : Q none h locs) (hc : cells ≤ C) (hs : slots ≤ S) :
    own_Gl p e below s Q C S (T.setTop (mkF m pc Ls [])) :=
  own_ret X hlk (fun _ => rfl) eT hq hc hs (fun _ hr => X.returnOut hx hret hd hr)
end OwnKit


theorem own_fld_start {args : Array Value} {s : State} {t : Term} {C n d : String} {a : Addr} {v : Int32} (ev : t.eval args s none [] s = some (.ref a)) (h : (Jvm.Cond.eq (.field t C n d) (.int v)).value args s none s [] = some true) : Fld s s.heap a C n d (.int v) := by
  obtain ⟨x, y, e1, e2, k1, k2⟩ := cmp_v (Or.inl h)
  obtain rfl : y = .int v := Option.some.inj (e2.symm.trans (Term.int_eval v))
  obtain ⟨z, rfl⟩ := k2
  have q := gotT (Cond.eq_ints e1 e2) h
  subst q
  exact Fld.start ((fld_at ev).symm.trans e1)

theorem own_d_prog_80_method_5_code_0 : decode prog_80_method_5_code 0 = .ok (.aload_n 0, 1) := by decide +kernel
theorem own_d_prog_80_method_5_code_1 : decode prog_80_method_5_code 1 = .ok (.getstatic 3, 3) := by decide +kernel
theorem own_d_prog_80_method_5_code_4 : decode prog_80_method_5_code 4 = .ok (.if_acmp .ne 9, 3) := by decide +kernel
theorem own_d_prog_80_method_5_code_7 : decode prog_80_method_5_code 7 = .ok (.getstatic 7, 3) := by decide +kernel
theorem own_d_prog_80_method_5_code_10 : decode prog_80_method_5_code 10 = .ok (.goto 19, 3) := by decide +kernel
theorem own_d_prog_80_method_5_code_29 : decode prog_80_method_5_code 29 = .ok (.areturn, 1) := by decide +kernel
theorem own_ef_own_not_t (m : MethodId) (x0 : Addr) : entryFrame m #[(.ref x0)] 1 = mkF m 0 #[.val (.ref x0)] [] := by first | (simp [entryFrame, mkF, argsToLocals, Value.category]; done) | rfl
def own_Q_own_not_t (Z : State) (t : Addr) (f : Addr) (u : Addr) (h0 : Heap) (n0 : Nat) (v : Option Value) (h : Heap) (L : List Loc) : Prop := (v = some (.ref f)) ∧ (Fr n0 L) ∧ (h = h0)
theorem own_pn27848751 : plainName "smalti/space/Condition$Truth" = true := by first | (simp [plainName, overriddenIn]; done) | decide +kernel
set_option maxRecDepth 65536 in
set_option maxHeartbeats 40000000 in
theorem own_not_t (l : Launch) (Z : State) (a0 : Array Value) (hw : ∀ d ∈ tables_1, d.before a0 Z = true) (ws : List Jvm.Cond) (t : Addr) (f : Addr) (u : Addr) (h0 : Heap) (n0 : Nat) (Z0 : n0 ≤ h0.size) (S_TRUE : Sta Z h0 "smalti/space/Condition$Truth" "TRUE" "Lsmalti/space/Condition$Truth;" (.ref t)) (S_FALSE : Sta Z h0 "smalti/space/Condition$Truth" "FALSE" "Lsmalti/space/Condition$Truth;" (.ref f)) (S_UNKNOWN : Sta Z h0 "smalti/space/Condition$Truth" "UNKNOWN" "Lsmalti/space/Condition$Truth;" (.ref u)) (ne_t_f : t ≠ f) (ne_t_u : t ≠ u) (ne_f_u : f ≠ u) :
    MetFree l (⟨"smalti/space/Condition$Truth", "not", "()Lsmalti/space/Condition$Truth;"⟩ : MethodName) (head1 (Jvm.Cond.code (⟨"smalti/space/Condition$Truth", "not", "()Lsmalti/space/Condition$Truth;"⟩ : MethodName) prog_80_method_5_code 1 (some (.object "smalti/space/Condition$Truth")) :: ws) ({ frames := 0, cells := 0, slots := 0, locals := 0 } : Room)) (fun xa xU => xa = #[(.ref t)] ∧ Z.Warmed39 xU.vm ∧ xU.heap = h0) (fun _ _ _ _ _ => True) (fun _ xU xo xV => ∃ v L, xo = .returned v ∧ own_Q_own_not_t Z t f u h0 n0 v xV.heap L ∧ FrameEnd xU xo xV L ({ frames := 0, cells := 0, slots := 0, locals := 0 } : Room).cells ({ frames := 0, cells := 0, slots := 0, locals := 0 } : Room).slots) := by
  refine MetFree.of_bodySF (plainFor_of_name own_pn27848751) hisR ?_
  intro p e s m args below meth c s₁ Bd hml0 hP hK
  obtain ⟨rfl, hZ, hh⟩ := hP
  have hx := Bd.exec
  have hby := Bd.bytes
  have hlk := Bd.notSynchronized
  have hret := Bd.returns
  have hml : c.maxLocals = 1 := hml0
  have hown : s.vm.findClass "smalti/space/Condition$Truth" = some m.cls := findClass_of_methodNamed Bd.named
  have hnm := (name_of_methodNamed Bd.named Bd.method).1
  have X0 : Stand p l e ({ frames := 0, cells := 0, slots := 0, locals := 0 } : Room) s m #[(.ref t)] below meth c s₁ [] 0 0 := Stand.of_body Bd
  have e0 : s₁.heap = h0 := by rw [← hh, Bd.state]; rfl
  have N0 := Fr.nil n0
  show own_Gl p e below s (own_Q_own_not_t Z t f u h0 n0) ({ frames := 0, cells := 0, slots := 0, locals := 0 } : Room).cells ({ frames := 0, cells := 0, slots := 0, locals := 0 } : Room).slots _
  refine own_cast (own_ef_own_not_t m t) ?_
  show own_Gl _ _ _ _ _ _ _ (s₁.setTop (mkF m 0 #[.val (.ref t)] []))
  refine own_st (fun _ k => XS.aloadN X0.here hx rfl (hb hby own_d_prog_80_method_5_code_0) rfl rfl k) ?_
  show own_Gl _ _ _ _ _ _ _ (s₁.setTop (mkF m 1 #[.val (.ref t)] [(.ref t)]))
  obtain ⟨T1, X1, e1, st1⟩ := getS2 X0 hx hZ hown (host := "") (Or.inl (hw _ (List.mem_of_getElem? (i := 11) rfl))) Via.refl e0 S_TRUE (g := (mkF m 1 #[.val (.ref t)] [(.ref t)])) rfl (hb hby own_d_prog_80_method_5_code_1)
  refine own_st st1 ?_
  show own_Gl _ _ _ _ _ _ _ (T1.setTop (mkF m 4 #[.val (.ref t)] [(.ref t), (.ref t)]))
  refine own_st (fun _ k => Jvm.RoadKit.acmp (g := (mkF m 4 #[.val (.ref t)] [(.ref t), (.ref t)])) X1 hx rfl rfl rfl (pc0 := 4) (pc' := 7) (same := true) rfl (hb hby own_d_prog_80_method_5_code_4) rfl (decide_eq_true rfl) (by decide) (by decide) k) ?_
  show own_Gl _ _ _ _ _ _ _ (T1.setTop (mkF m 7 #[.val (.ref t)] []))
  obtain ⟨T2, X2, e2, st2⟩ := getS2 X1 hx hZ hown (host := "") (Or.inl (hw _ (List.mem_of_getElem? (i := 12) rfl))) Via.refl e1 S_FALSE (g := (mkF m 7 #[.val (.ref t)] [])) rfl (hb hby own_d_prog_80_method_5_code_7)
  refine own_st st2 ?_
  show own_Gl _ _ _ _ _ _ _ (T2.setTop (mkF m 10 #[.val (.ref t)] [(.ref f)]))
  refine own_st (fun _ k => XS.goto X2.here hx rfl (pc0 := 10) (pc' := 29) rfl (hb hby own_d_prog_80_method_5_code_10) (by decide) (by decide) k) ?_
  show own_Gl _ _ _ _ _ _ _ (T2.setTop (mkF m 29 #[.val (.ref t)] [(.ref f)]))
  exact own_retA X2 hx hlk hret rfl rfl rfl (hb hby own_d_prog_80_method_5_code_29) e2 ⟨rfl, N0, rfl⟩ (by decide) (by decide)
theorem own_d_prog_80_method_5_code_13 : decode prog_80_method_5_code 13 = .ok (.aload_n 0, 1) := by decide +kernel
theorem own_d_prog_80_method_5_code_14 : decode prog_80_method_5_code 14 = .ok (.getstatic 7, 3) := by decide +kernel
theorem own_d_prog_80_method_5_code_17 : decode prog_80_method_5_code 17 = .ok (.if_acmp .ne 9, 3) := by decide +kernel
theorem own_d_prog_80_method_5_code_20 : decode prog_80_method_5_code 20 = .ok (.getstatic 3, 3) := by decide +kernel
theorem own_d_prog_80_method_5_code_23 : decode prog_80_method_5_code 23 = .ok (.goto 6, 3) := by decide +kernel
theorem own_ef_own_not_f (m : MethodId) (x0 : Addr) : entryFrame m #[(.ref x0)] 1 = mkF m 0 #[.val (.ref x0)] [] := by first | (simp [entryFrame, mkF, argsToLocals, Value.category]; done) | rfl
def own_Q_own_not_f (Z : State) (t : Addr) (f : Addr) (u : Addr) (h0 : Heap) (n0 : Nat) (v : Option Value) (h : Heap) (L : List Loc) : Prop := (v = some (.ref t)) ∧ (Fr n0 L) ∧ (h = h0)
set_option maxRecDepth 65536 in
set_option maxHeartbeats 40000000 in
theorem own_not_f (l : Launch) (Z : State) (a0 : Array Value) (hw : ∀ d ∈ tables_1, d.before a0 Z = true) (ws : List Jvm.Cond) (t : Addr) (f : Addr) (u : Addr) (h0 : Heap) (n0 : Nat) (Z0 : n0 ≤ h0.size) (S_TRUE : Sta Z h0 "smalti/space/Condition$Truth" "TRUE" "Lsmalti/space/Condition$Truth;" (.ref t)) (S_FALSE : Sta Z h0 "smalti/space/Condition$Truth" "FALSE" "Lsmalti/space/Condition$Truth;" (.ref f)) (S_UNKNOWN : Sta Z h0 "smalti/space/Condition$Truth" "UNKNOWN" "Lsmalti/space/Condition$Truth;" (.ref u)) (ne_t_f : t ≠ f) (ne_t_u : t ≠ u) (ne_f_u : f ≠ u) :
    MetFree l (⟨"smalti/space/Condition$Truth", "not", "()Lsmalti/space/Condition$Truth;"⟩ : MethodName) (head1 (Jvm.Cond.code (⟨"smalti/space/Condition$Truth", "not", "()Lsmalti/space/Condition$Truth;"⟩ : MethodName) prog_80_method_5_code 1 (some (.object "smalti/space/Condition$Truth")) :: ws) ({ frames := 0, cells := 0, slots := 0, locals := 0 } : Room)) (fun xa xU => xa = #[(.ref f)] ∧ Z.Warmed39 xU.vm ∧ xU.heap = h0) (fun _ _ _ _ _ => True) (fun _ xU xo xV => ∃ v L, xo = .returned v ∧ own_Q_own_not_f Z t f u h0 n0 v xV.heap L ∧ FrameEnd xU xo xV L ({ frames := 0, cells := 0, slots := 0, locals := 0 } : Room).cells ({ frames := 0, cells := 0, slots := 0, locals := 0 } : Room).slots) := by
  refine MetFree.of_bodySF (plainFor_of_name own_pn27848751) hisR ?_
  intro p e s m args below meth c s₁ Bd hml0 hP hK
  obtain ⟨rfl, hZ, hh⟩ := hP
  have hx := Bd.exec
  have hby := Bd.bytes
  have hlk := Bd.notSynchronized
  have hret := Bd.returns
  have hml : c.maxLocals = 1 := hml0
  have hown : s.vm.findClass "smalti/space/Condition$Truth" = some m.cls := findClass_of_methodNamed Bd.named
  have hnm := (name_of_methodNamed Bd.named Bd.method).1
  have X0 : Stand p l e ({ frames := 0, cells := 0, slots := 0, locals := 0 } : Room) s m #[(.ref f)] below meth c s₁ [] 0 0 := Stand.of_body Bd
  have e0 : s₁.heap = h0 := by rw [← hh, Bd.state]; rfl
  have N0 := Fr.nil n0
  show own_Gl p e below s (own_Q_own_not_f Z t f u h0 n0) ({ frames := 0, cells := 0, slots := 0, locals := 0 } : Room).cells ({ frames := 0, cells := 0, slots := 0, locals := 0 } : Room).slots _
  refine own_cast (own_ef_own_not_f m f) ?_
  show own_Gl _ _ _ _ _ _ _ (s₁.setTop (mkF m 0 #[.val (.ref f)] []))
  refine own_st (fun _ k => XS.aloadN X0.here hx rfl (hb hby own_d_prog_80_method_5_code_0) rfl rfl k) ?_
  show own_Gl _ _ _ _ _ _ _ (s₁.setTop (mkF m 1 #[.val (.ref f)] [(.ref f)]))
  obtain ⟨T1, X1, e1, st1⟩ := getS2 X0 hx hZ hown (host := "") (Or.inl (hw _ (List.mem_of_getElem? (i := 11) rfl))) Via.refl e0 S_TRUE (g := (mkF m 1 #[.val (.ref f)] [(.ref f)])) rfl (hb hby own_d_prog_80_method_5_code_1)
  refine own_st st1 ?_
  show own_Gl _ _ _ _ _ _ _ (T1.setTop (mkF m 4 #[.val (.ref f)] [(.ref t), (.ref f)]))
  refine own_st (fun _ k => Jvm.RoadKit.acmp (g := (mkF m 4 #[.val (.ref f)] [(.ref t), (.ref f)])) X1 hx rfl rfl rfl (pc0 := 4) (pc' := 13) (same := false) rfl (hb hby own_d_prog_80_method_5_code_4) rfl (decide_eq_false fun q => (Ne.symm ne_t_f) (Value.ref.inj q)) (by decide) (by decide) k) ?_
  show own_Gl _ _ _ _ _ _ _ (T1.setTop (mkF m 13 #[.val (.ref f)] []))
  refine own_st (fun _ k => XS.aloadN X1.here hx rfl (hb hby own_d_prog_80_method_5_code_13) rfl rfl k) ?_
  show own_Gl _ _ _ _ _ _ _ (T1.setTop (mkF m 14 #[.val (.ref f)] [(.ref f)]))
  obtain ⟨T2, X2, e2, st2⟩ := getS2 X1 hx hZ hown (host := "") (Or.inl (hw _ (List.mem_of_getElem? (i := 12) rfl))) Via.refl e1 S_FALSE (g := (mkF m 14 #[.val (.ref f)] [(.ref f)])) rfl (hb hby own_d_prog_80_method_5_code_14)
  refine own_st st2 ?_
  show own_Gl _ _ _ _ _ _ _ (T2.setTop (mkF m 17 #[.val (.ref f)] [(.ref f), (.ref f)]))
  refine own_st (fun _ k => Jvm.RoadKit.acmp (g := (mkF m 17 #[.val (.ref f)] [(.ref f), (.ref f)])) X2 hx rfl rfl rfl (pc0 := 17) (pc' := 20) (same := true) rfl (hb hby own_d_prog_80_method_5_code_17) rfl (decide_eq_true rfl) (by decide) (by decide) k) ?_
  show own_Gl _ _ _ _ _ _ _ (T2.setTop (mkF m 20 #[.val (.ref f)] []))
  obtain ⟨T3, X3, e3, st3⟩ := getS2 X2 hx hZ hown (host := "") (Or.inl (hw _ (List.mem_of_getElem? (i := 11) rfl))) Via.refl e2 S_TRUE (g := (mkF m 20 #[.val (.ref f)] [])) rfl (hb hby own_d_prog_80_method_5_code_20)
  refine own_st st3 ?_
  show own_Gl _ _ _ _ _ _ _ (T3.setTop (mkF m 23 #[.val (.ref f)] [(.ref t)]))
  refine own_st (fun _ k => XS.goto X3.here hx rfl (pc0 := 23) (pc' := 29) rfl (hb hby own_d_prog_80_method_5_code_23) (by decide) (by decide) k) ?_
  show own_Gl _ _ _ _ _ _ _ (T3.setTop (mkF m 29 #[.val (.ref f)] [(.ref t)]))
  exact own_retA X3 hx hlk hret rfl rfl rfl (hb hby own_d_prog_80_method_5_code_29) e3 ⟨rfl, N0, rfl⟩ (by decide) (by decide)
theorem own_d_prog_80_method_5_code_26 : decode prog_80_method_5_code 26 = .ok (.getstatic 10, 3) := by decide +kernel
theorem own_ef_own_not_u (m : MethodId) (x0 : Addr) : entryFrame m #[(.ref x0)] 1 = mkF m 0 #[.val (.ref x0)] [] := by first | (simp [entryFrame, mkF, argsToLocals, Value.category]; done) | rfl
def own_Q_own_not_u (Z : State) (t : Addr) (f : Addr) (u : Addr) (h0 : Heap) (n0 : Nat) (v : Option Value) (h : Heap) (L : List Loc) : Prop := (v = some (.ref u)) ∧ (Fr n0 L) ∧ (h = h0)
set_option maxRecDepth 65536 in
set_option maxHeartbeats 40000000 in
theorem own_not_u (l : Launch) (Z : State) (a0 : Array Value) (hw : ∀ d ∈ tables_1, d.before a0 Z = true) (ws : List Jvm.Cond) (t : Addr) (f : Addr) (u : Addr) (h0 : Heap) (n0 : Nat) (Z0 : n0 ≤ h0.size) (S_TRUE : Sta Z h0 "smalti/space/Condition$Truth" "TRUE" "Lsmalti/space/Condition$Truth;" (.ref t)) (S_FALSE : Sta Z h0 "smalti/space/Condition$Truth" "FALSE" "Lsmalti/space/Condition$Truth;" (.ref f)) (S_UNKNOWN : Sta Z h0 "smalti/space/Condition$Truth" "UNKNOWN" "Lsmalti/space/Condition$Truth;" (.ref u)) (ne_t_f : t ≠ f) (ne_t_u : t ≠ u) (ne_f_u : f ≠ u) :
    MetFree l (⟨"smalti/space/Condition$Truth", "not", "()Lsmalti/space/Condition$Truth;"⟩ : MethodName) (head1 (Jvm.Cond.code (⟨"smalti/space/Condition$Truth", "not", "()Lsmalti/space/Condition$Truth;"⟩ : MethodName) prog_80_method_5_code 1 (some (.object "smalti/space/Condition$Truth")) :: ws) ({ frames := 0, cells := 0, slots := 0, locals := 0 } : Room)) (fun xa xU => xa = #[(.ref u)] ∧ Z.Warmed39 xU.vm ∧ xU.heap = h0) (fun _ _ _ _ _ => True) (fun _ xU xo xV => ∃ v L, xo = .returned v ∧ own_Q_own_not_u Z t f u h0 n0 v xV.heap L ∧ FrameEnd xU xo xV L ({ frames := 0, cells := 0, slots := 0, locals := 0 } : Room).cells ({ frames := 0, cells := 0, slots := 0, locals := 0 } : Room).slots) := by
  refine MetFree.of_bodySF (plainFor_of_name own_pn27848751) hisR ?_
  intro p e s m args below meth c s₁ Bd hml0 hP hK
  obtain ⟨rfl, hZ, hh⟩ := hP
  have hx := Bd.exec
  have hby := Bd.bytes
  have hlk := Bd.notSynchronized
  have hret := Bd.returns
  have hml : c.maxLocals = 1 := hml0
  have hown : s.vm.findClass "smalti/space/Condition$Truth" = some m.cls := findClass_of_methodNamed Bd.named
  have hnm := (name_of_methodNamed Bd.named Bd.method).1
  have X0 : Stand p l e ({ frames := 0, cells := 0, slots := 0, locals := 0 } : Room) s m #[(.ref u)] below meth c s₁ [] 0 0 := Stand.of_body Bd
  have e0 : s₁.heap = h0 := by rw [← hh, Bd.state]; rfl
  have N0 := Fr.nil n0
  show own_Gl p e below s (own_Q_own_not_u Z t f u h0 n0) ({ frames := 0, cells := 0, slots := 0, locals := 0 } : Room).cells ({ frames := 0, cells := 0, slots := 0, locals := 0 } : Room).slots _
  refine own_cast (own_ef_own_not_u m u) ?_
  show own_Gl _ _ _ _ _ _ _ (s₁.setTop (mkF m 0 #[.val (.ref u)] []))
  refine own_st (fun _ k => XS.aloadN X0.here hx rfl (hb hby own_d_prog_80_method_5_code_0) rfl rfl k) ?_
  show own_Gl _ _ _ _ _ _ _ (s₁.setTop (mkF m 1 #[.val (.ref u)] [(.ref u)]))
  obtain ⟨T1, X1, e1, st1⟩ := getS2 X0 hx hZ hown (host := "") (Or.inl (hw _ (List.mem_of_getElem? (i := 11) rfl))) Via.refl e0 S_TRUE (g := (mkF m 1 #[.val (.ref u)] [(.ref u)])) rfl (hb hby own_d_prog_80_method_5_code_1)
  refine own_st st1 ?_
  show own_Gl _ _ _ _ _ _ _ (T1.setTop (mkF m 4 #[.val (.ref u)] [(.ref t), (.ref u)]))
  refine own_st (fun _ k => Jvm.RoadKit.acmp (g := (mkF m 4 #[.val (.ref u)] [(.ref t), (.ref u)])) X1 hx rfl rfl rfl (pc0 := 4) (pc' := 13) (same := false) rfl (hb hby own_d_prog_80_method_5_code_4) rfl (decide_eq_false fun q => (Ne.symm ne_t_u) (Value.ref.inj q)) (by decide) (by decide) k) ?_
  show own_Gl _ _ _ _ _ _ _ (T1.setTop (mkF m 13 #[.val (.ref u)] []))
  refine own_st (fun _ k => XS.aloadN X1.here hx rfl (hb hby own_d_prog_80_method_5_code_13) rfl rfl k) ?_
  show own_Gl _ _ _ _ _ _ _ (T1.setTop (mkF m 14 #[.val (.ref u)] [(.ref u)]))
  obtain ⟨T2, X2, e2, st2⟩ := getS2 X1 hx hZ hown (host := "") (Or.inl (hw _ (List.mem_of_getElem? (i := 12) rfl))) Via.refl e1 S_FALSE (g := (mkF m 14 #[.val (.ref u)] [(.ref u)])) rfl (hb hby own_d_prog_80_method_5_code_14)
  refine own_st st2 ?_
  show own_Gl _ _ _ _ _ _ _ (T2.setTop (mkF m 17 #[.val (.ref u)] [(.ref f), (.ref u)]))
  refine own_st (fun _ k => Jvm.RoadKit.acmp (g := (mkF m 17 #[.val (.ref u)] [(.ref f), (.ref u)])) X2 hx rfl rfl rfl (pc0 := 17) (pc' := 26) (same := false) rfl (hb hby own_d_prog_80_method_5_code_17) rfl (decide_eq_false fun q => (Ne.symm ne_f_u) (Value.ref.inj q)) (by decide) (by decide) k) ?_
  show own_Gl _ _ _ _ _ _ _ (T2.setTop (mkF m 26 #[.val (.ref u)] []))
  obtain ⟨T3, X3, e3, st3⟩ := getS2 X2 hx hZ hown (host := "") (Or.inl (hw _ (List.mem_of_getElem? (i := 18) rfl))) Via.refl e2 S_UNKNOWN (g := (mkF m 26 #[.val (.ref u)] [])) rfl (hb hby own_d_prog_80_method_5_code_26)
  refine own_st st3 ?_
  show own_Gl _ _ _ _ _ _ _ (T3.setTop (mkF m 29 #[.val (.ref u)] [(.ref u)]))
  exact own_retA X3 hx hlk hret rfl rfl rfl (hb hby own_d_prog_80_method_5_code_29) e3 ⟨rfl, N0, rfl⟩ (by decide) (by decide)
theorem own_d_prog_80_method_4_code_0 : decode prog_80_method_4_code 0 = .ok (.iload_n 0, 1) := by decide +kernel
theorem own_d_prog_80_method_4_code_1 : decode prog_80_method_4_code 1 = .ok (.ifCond .eq 9, 3) := by decide +kernel
theorem own_d_prog_80_method_4_code_10 : decode prog_80_method_4_code 10 = .ok (.getstatic 7, 3) := by decide +kernel
theorem own_d_prog_80_method_4_code_13 : decode prog_80_method_4_code 13 = .ok (.areturn, 1) := by decide +kernel
theorem own_ef_own_of_0 (m : MethodId) (x0 : Int32) : entryFrame m #[(.int x0)] 1 = mkF m 0 #[.val (.int x0)] [] := by first | (simp [entryFrame, mkF, argsToLocals, Value.category]; done) | rfl
def own_Q_own_of_0 (Z : State) (t : Addr) (f : Addr) (u : Addr) (h0 : Heap) (n0 : Nat) (v : Option Value) (h : Heap) (L : List Loc) : Prop := (v = some (.ref f)) ∧ (Fr n0 L) ∧ (h = h0)
set_option maxRecDepth 65536 in
set_option maxHeartbeats 40000000 in
theorem own_of_0 (l : Launch) (Z : State) (a0 : Array Value) (hw : ∀ d ∈ tables_1, d.before a0 Z = true) (ws : List Jvm.Cond) (t : Addr) (f : Addr) (u : Addr) (h0 : Heap) (n0 : Nat) (Z0 : n0 ≤ h0.size) (S_TRUE : Sta Z h0 "smalti/space/Condition$Truth" "TRUE" "Lsmalti/space/Condition$Truth;" (.ref t)) (S_FALSE : Sta Z h0 "smalti/space/Condition$Truth" "FALSE" "Lsmalti/space/Condition$Truth;" (.ref f)) (S_UNKNOWN : Sta Z h0 "smalti/space/Condition$Truth" "UNKNOWN" "Lsmalti/space/Condition$Truth;" (.ref u)) :
    MetFree l (⟨"smalti/space/Condition$Truth", "of", "(Z)Lsmalti/space/Condition$Truth;"⟩ : MethodName) (head1 (Jvm.Cond.code (⟨"smalti/space/Condition$Truth", "of", "(Z)Lsmalti/space/Condition$Truth;"⟩ : MethodName) prog_80_method_4_code 1 (some (.object "smalti/space/Condition$Truth")) :: ws) ({ frames := 0, cells := 0, slots := 0, locals := 0 } : Room)) (fun xa xU => xa = #[(.int (0 : Int32))] ∧ Z.Warmed39 xU.vm ∧ xU.heap = h0) (fun _ _ _ _ _ => True) (fun _ xU xo xV => ∃ v L, xo = .returned v ∧ own_Q_own_of_0 Z t f u h0 n0 v xV.heap L ∧ FrameEnd xU xo xV L ({ frames := 0, cells := 0, slots := 0, locals := 0 } : Room).cells ({ frames := 0, cells := 0, slots := 0, locals := 0 } : Room).slots) := by
  refine MetFree.of_bodySF (plainFor_of_name own_pn27848751) hisR ?_
  intro p e s m args below meth c s₁ Bd hml0 hP hK
  obtain ⟨rfl, hZ, hh⟩ := hP
  have hx := Bd.exec
  have hby := Bd.bytes
  have hlk := Bd.notSynchronized
  have hret := Bd.returns
  have hml : c.maxLocals = 1 := hml0
  have hown : s.vm.findClass "smalti/space/Condition$Truth" = some m.cls := findClass_of_methodNamed Bd.named
  have hnm := (name_of_methodNamed Bd.named Bd.method).1
  have X0 : Stand p l e ({ frames := 0, cells := 0, slots := 0, locals := 0 } : Room) s m #[(.int (0 : Int32))] below meth c s₁ [] 0 0 := Stand.of_body Bd
  have e0 : s₁.heap = h0 := by rw [← hh, Bd.state]; rfl
  have N0 := Fr.nil n0
  show own_Gl p e below s (own_Q_own_of_0 Z t f u h0 n0) ({ frames := 0, cells := 0, slots := 0, locals := 0 } : Room).cells ({ frames := 0, cells := 0, slots := 0, locals := 0 } : Room).slots _
  refine own_cast (own_ef_own_of_0 m (0 : Int32)) ?_
  show own_Gl _ _ _ _ _ _ _ (s₁.setTop (mkF m 0 #[.val (.int (0 : Int32))] []))
  refine own_st (fun _ k => XS.iloadN X0.here hx rfl (hb hby own_d_prog_80_method_4_code_0) rfl k) ?_
  show own_Gl _ _ _ _ _ _ _ (s₁.setTop (mkF m 1 #[.val (.int (0 : Int32))] [(.int (0 : Int32))]))
  have hd1 : (0 : Int32) = (0 : Int32) := (by decide)
  refine own_st (fun _ k => XS.ifYes X0.here hx rfl (pc0 := 1) (pc' := 10) rfl (hb hby own_d_prog_80_method_4_code_1) rfl ((if0 _ _).trans (teq hd1).1) (by decide) (by decide) k) ?_
  show own_Gl _ _ _ _ _ _ _ (s₁.setTop (mkF m 10 #[.val (.int (0 : Int32))] []))
  obtain ⟨T2, X2, e2, st2⟩ := getS2 X0 hx hZ hown (host := "") (Or.inl (hw _ (List.mem_of_getElem? (i := 12) rfl))) Via.refl e0 S_FALSE (g := (mkF m 10 #[.val (.int (0 : Int32))] [])) rfl (hb hby own_d_prog_80_method_4_code_10)
  refine own_st st2 ?_
  show own_Gl _ _ _ _ _ _ _ (T2.setTop (mkF m 13 #[.val (.int (0 : Int32))] [(.ref f)]))
  exact own_retA X2 hx hlk hret rfl rfl rfl (hb hby own_d_prog_80_method_4_code_13) e2 ⟨rfl, N0, rfl⟩ (by decide) (by decide)
theorem own_d_prog_80_method_4_code_4 : decode prog_80_method_4_code 4 = .ok (.getstatic 3, 3) := by decide +kernel
theorem own_d_prog_80_method_4_code_7 : decode prog_80_method_4_code 7 = .ok (.goto 6, 3) := by decide +kernel
theorem own_ef_own_of_1 (m : MethodId) (x0 : Int32) : entryFrame m #[(.int x0)] 1 = mkF m 0 #[.val (.int x0)] [] := by first | (simp [entryFrame, mkF, argsToLocals, Value.category]; done) | rfl
def own_Q_own_of_1 (Z : State) (t : Addr) (f : Addr) (u : Addr) (h0 : Heap) (n0 : Nat) (v : Option Value) (h : Heap) (L : List Loc) : Prop := (v = some (.ref t)) ∧ (Fr n0 L) ∧ (h = h0)
set_option maxRecDepth 65536 in
set_option maxHeartbeats 40000000 in
theorem own_of_1 (l : Launch) (Z : State) (a0 : Array Value) (hw : ∀ d ∈ tables_1, d.before a0 Z = true) (ws : List Jvm.Cond) (t : Addr) (f : Addr) (u : Addr) (h0 : Heap) (n0 : Nat) (Z0 : n0 ≤ h0.size) (S_TRUE : Sta Z h0 "smalti/space/Condition$Truth" "TRUE" "Lsmalti/space/Condition$Truth;" (.ref t)) (S_FALSE : Sta Z h0 "smalti/space/Condition$Truth" "FALSE" "Lsmalti/space/Condition$Truth;" (.ref f)) (S_UNKNOWN : Sta Z h0 "smalti/space/Condition$Truth" "UNKNOWN" "Lsmalti/space/Condition$Truth;" (.ref u)) :
    MetFree l (⟨"smalti/space/Condition$Truth", "of", "(Z)Lsmalti/space/Condition$Truth;"⟩ : MethodName) (head1 (Jvm.Cond.code (⟨"smalti/space/Condition$Truth", "of", "(Z)Lsmalti/space/Condition$Truth;"⟩ : MethodName) prog_80_method_4_code 1 (some (.object "smalti/space/Condition$Truth")) :: ws) ({ frames := 0, cells := 0, slots := 0, locals := 0 } : Room)) (fun xa xU => xa = #[(.int (1 : Int32))] ∧ Z.Warmed39 xU.vm ∧ xU.heap = h0) (fun _ _ _ _ _ => True) (fun _ xU xo xV => ∃ v L, xo = .returned v ∧ own_Q_own_of_1 Z t f u h0 n0 v xV.heap L ∧ FrameEnd xU xo xV L ({ frames := 0, cells := 0, slots := 0, locals := 0 } : Room).cells ({ frames := 0, cells := 0, slots := 0, locals := 0 } : Room).slots) := by
  refine MetFree.of_bodySF (plainFor_of_name own_pn27848751) hisR ?_
  intro p e s m args below meth c s₁ Bd hml0 hP hK
  obtain ⟨rfl, hZ, hh⟩ := hP
  have hx := Bd.exec
  have hby := Bd.bytes
  have hlk := Bd.notSynchronized
  have hret := Bd.returns
  have hml : c.maxLocals = 1 := hml0
  have hown : s.vm.findClass "smalti/space/Condition$Truth" = some m.cls := findClass_of_methodNamed Bd.named
  have hnm := (name_of_methodNamed Bd.named Bd.method).1
  have X0 : Stand p l e ({ frames := 0, cells := 0, slots := 0, locals := 0 } : Room) s m #[(.int (1 : Int32))] below meth c s₁ [] 0 0 := Stand.of_body Bd
  have e0 : s₁.heap = h0 := by rw [← hh, Bd.state]; rfl
  have N0 := Fr.nil n0
  show own_Gl p e below s (own_Q_own_of_1 Z t f u h0 n0) ({ frames := 0, cells := 0, slots := 0, locals := 0 } : Room).cells ({ frames := 0, cells := 0, slots := 0, locals := 0 } : Room).slots _
  refine own_cast (own_ef_own_of_1 m (1 : Int32)) ?_
  show own_Gl _ _ _ _ _ _ _ (s₁.setTop (mkF m 0 #[.val (.int (1 : Int32))] []))
  refine own_st (fun _ k => XS.iloadN X0.here hx rfl (hb hby own_d_prog_80_method_4_code_0) rfl k) ?_
  show own_Gl _ _ _ _ _ _ _ (s₁.setTop (mkF m 1 #[.val (.int (1 : Int32))] [(.int (1 : Int32))]))
  have hd1 : ¬ ((1 : Int32) = (0 : Int32)) := (by decide)
  refine own_st (fun _ k => XS.ifNo X0.here hx rfl (hb hby own_d_prog_80_method_4_code_1) rfl ((if0 _ _).trans (feq hd1).1) k) ?_
  show own_Gl _ _ _ _ _ _ _ (s₁.setTop (mkF m 4 #[.val (.int (1 : Int32))] []))
  obtain ⟨T2, X2, e2, st2⟩ := getS2 X0 hx hZ hown (host := "") (Or.inl (hw _ (List.mem_of_getElem? (i := 11) rfl))) Via.refl e0 S_TRUE (g := (mkF m 4 #[.val (.int (1 : Int32))] [])) rfl (hb hby own_d_prog_80_method_4_code_4)
  refine own_st st2 ?_
  show own_Gl _ _ _ _ _ _ _ (T2.setTop (mkF m 7 #[.val (.int (1 : Int32))] [(.ref t)]))
  refine own_st (fun _ k => XS.goto X2.here hx rfl (pc0 := 7) (pc' := 13) rfl (hb hby own_d_prog_80_method_4_code_7) (by decide) (by decide) k) ?_
  show own_Gl _ _ _ _ _ _ _ (T2.setTop (mkF m 13 #[.val (.int (1 : Int32))] [(.ref t)]))
  exact own_retA X2 hx hlk hret rfl rfl rfl (hb hby own_d_prog_80_method_4_code_13) e2 ⟨rfl, N0, rfl⟩ (by decide) (by decide)
theorem own_pd577329010 : parseMethodDescriptor "()Lsmalti/space/Condition$Truth;" = some ⟨[], some (.object "smalti/space/Condition$Truth")⟩ := by decide +kernel
theorem own_pd211156806 : parseMethodDescriptor "(Z)Lsmalti/space/Condition$Truth;" = some ⟨[.boolean], some (.object "smalti/space/Condition$Truth")⟩ := by decide +kernel
theorem own_ef_own_law (m : MethodId) (x0 : Int32) (x1 : Int32) : entryFrame m #[(.int x0), (.int x1)] maxLocals = mkF m 0 #[.val (.int x0), .val (.int x1), .unset, .unset, .unset, .unset, .unset, .unset, .unset] [] := by first | (simp [entryFrame, mkF, argsToLocals, Value.category, maxLocals]; done) | rfl
def own_Q_own_law (Z : State) (p1 : Int32) (p2 : Int32) (t : Addr) (f : Addr) (u : Addr) (h0 : Heap) (n0 : Nat) (v : Option Value) (h : Heap) (L : List Loc) : Prop := v = some (.int 1) ∧ Fr n0 L
theorem own_pn637767699 : plainName "smalti/space/TruthNotPinLaw" = true := by first | (simp [plainName, overriddenIn]; done) | decide +kernel
set_option maxRecDepth 65536 in
set_option maxHeartbeats 40000000 in
theorem own_law (l : Launch) (Z : State) (a0 : Array Value) (hw : ∀ d ∈ tables_1, d.before a0 Z = true) (ws : List Jvm.Cond) (p1 : Int32) (p2 : Int32) (t : Addr) (f : Addr) (u : Addr) (h0 : Heap) (n0 : Nat) (Z0 : n0 ≤ h0.size) (S_TRUE : Sta Z h0 "smalti/space/Condition$Truth" "TRUE" "Lsmalti/space/Condition$Truth;" (.ref t)) (S_FALSE : Sta Z h0 "smalti/space/Condition$Truth" "FALSE" "Lsmalti/space/Condition$Truth;" (.ref f)) (S_UNKNOWN : Sta Z h0 "smalti/space/Condition$Truth" "UNKNOWN" "Lsmalti/space/Condition$Truth;" (.ref u)) (E_t : Exa Z h0 t "smalti/space/Condition$Truth") (E_f : Exa Z h0 f "smalti/space/Condition$Truth") (E_u : Exa Z h0 u "smalti/space/Condition$Truth") (ne_t_f : t ≠ f) (ne_t_u : t ≠ u) (ne_f_u : f ≠ u) :
    MetFree l x (head1 (Jvm.Cond.code x code maxLocals ret :: ws) room_1) (fun xa xU => xa = #[(.int p1), (.int p2)] ∧ Z.Warmed39 xU.vm ∧ xU.heap = h0) (fun _ _ _ _ _ => True) (fun _ xU xo xV => ∃ v L, xo = .returned v ∧ own_Q_own_law Z p1 p2 t f u h0 n0 v xV.heap L ∧ FrameEnd xU xo xV L room_1.cells room_1.slots) := by
  refine MetFree.of_bodySF (plainFor_of_name own_pn637767699) hisR ?_
  intro p e s m args below meth c s₁ Bd hml0 hP hK
  obtain ⟨rfl, hZ, hh⟩ := hP
  have hx := Bd.exec
  have hby := Bd.bytes
  have hlk := Bd.notSynchronized
  have hret := Bd.returns
  have hml : c.maxLocals = 9 := hml0
  have hown : s.vm.findClass "smalti/space/TruthNotPinLaw" = some m.cls := findClass_of_methodNamed Bd.named
  have hnm := (name_of_methodNamed Bd.named Bd.method).1
  have X0 : Stand p l e room_1 s m #[(.int p1), (.int p2)] below meth c s₁ [] 0 0 := Stand.of_body Bd
  have e0 : s₁.heap = h0 := by rw [← hh, Bd.state]; rfl
  have N0 := Fr.nil n0
  show own_Gl p e below s (own_Q_own_law Z p1 p2 t f u h0 n0) room_1.cells room_1.slots _
  refine own_cast (own_ef_own_law m p1 p2) ?_
  show own_Gl _ _ _ _ _ _ _ (s₁.setTop (mkF m 0 #[.val (.int p1), .val (.int p2), .unset, .unset, .unset, .unset, .unset, .unset, .unset] []))
  refine own_st (fun _ k => XS.iloadN X0.here hx rfl (hb hby at_0) rfl k) ?_
  show own_Gl _ _ _ _ _ _ _ (s₁.setTop (mkF m 1 #[.val (.int p1), .val (.int p2), .unset, .unset, .unset, .unset, .unset, .unset, .unset] [(.int p1)]))
  refine own_st (X0.ldcInt hx hown (mvT hZ (hw _ (List.mem_of_getElem? (i := 0) rfl))) (g := (mkF m 1 #[.val (.int p1), .val (.int p2), .unset, .unset, .unset, .unset, .unset, .unset, .unset] [(.int p1)])) rfl (hb hby at_1)) ?_
  show own_Gl _ _ _ _ _ _ _ (s₁.setTop (mkF m 3 #[.val (.int p1), .val (.int p2), .unset, .unset, .unset, .unset, .unset, .unset, .unset] [(.int (2147483647 : Int32)), (.int p1)]))
  refine own_st (fun _ k => XS.iand X0.here hx rfl (hb hby at_3) rfl k) ?_
  show own_Gl _ _ _ _ _ _ _ (s₁.setTop (mkF m 4 #[.val (.int p1), .val (.int p2), .unset, .unset, .unset, .unset, .unset, .unset, .unset] [(.int (p1 &&& (2147483647 : Int32)))]))
  refine own_st (fun _ k => XS.iconst X0.here hx rfl (hb hby at_4) k) ?_
  show own_Gl _ _ _ _ _ _ _ (s₁.setTop (mkF m 5 #[.val (.int p1), .val (.int p2), .unset, .unset, .unset, .unset, .unset, .unset, .unset] [(.int (3 : Int32)), (.int (p1 &&& (2147483647 : Int32)))]))
  refine own_st (fun _ k => iremM X0 hx rfl (hb hby at_5) rfl (by decide) k) ?_
  show own_Gl _ _ _ _ _ _ _ (s₁.setTop (mkF m 6 #[.val (.int p1), .val (.int p2), .unset, .unset, .unset, .unset, .unset, .unset, .unset] [(.int ((p1 &&& (2147483647 : Int32)) % (3 : Int32)))]))
  refine own_st (fun _ k => XS.istoreN X0.here hx rfl (hb hby at_6) rfl (l' := #[.val (.int p1), .val (.int p2), .val (.int ((p1 &&& (2147483647 : Int32)) % (3 : Int32))), .unset, .unset, .unset, .unset, .unset, .unset]) rfl k) ?_
  show own_Gl _ _ _ _ _ _ _ (s₁.setTop (mkF m 7 #[.val (.int p1), .val (.int p2), .val (.int ((p1 &&& (2147483647 : Int32)) % (3 : Int32))), .unset, .unset, .unset, .unset, .unset, .unset] []))
  refine own_st (fun _ k => XS.iloadN X0.here hx rfl (hb hby at_7) rfl k) ?_
  show own_Gl _ _ _ _ _ _ _ (s₁.setTop (mkF m 8 #[.val (.int p1), .val (.int p2), .val (.int ((p1 &&& (2147483647 : Int32)) % (3 : Int32))), .unset, .unset, .unset, .unset, .unset, .unset] [(.int ((p1 &&& (2147483647 : Int32)) % (3 : Int32)))]))
  by_cases hc8 : ((p1 &&& (2147483647 : Int32)) % (3 : Int32)) = (0 : Int32)
  · refine own_st (fun _ k => XS.ifNo X0.here hx rfl (hb hby at_8) rfl ((if0 _ _).trans (teq hc8).2) k) ?_
    show own_Gl _ _ _ _ _ _ _ (s₁.setTop (mkF m 11 #[.val (.int p1), .val (.int p2), .val (.int ((p1 &&& (2147483647 : Int32)) % (3 : Int32))), .unset, .unset, .unset, .unset, .unset, .unset] []))
    obtain ⟨T1, X1, e1, st1⟩ := getS2 X0 hx hZ hown (host := "") (Or.inl (hw _ (List.mem_of_getElem? (i := 1) rfl))) Via.refl e0 S_TRUE (g := (mkF m 11 #[.val (.int p1), .val (.int p2), .val (.int ((p1 &&& (2147483647 : Int32)) % (3 : Int32))), .unset, .unset, .unset, .unset, .unset, .unset] [])) rfl (hb hby at_11)
    refine own_st st1 ?_
    show own_Gl _ _ _ _ _ _ _ (T1.setTop (mkF m 14 #[.val (.int p1), .val (.int p2), .val (.int ((p1 &&& (2147483647 : Int32)) % (3 : Int32))), .unset, .unset, .unset, .unset, .unset, .unset] [(.ref t)]))
    refine own_st (fun _ k => XS.goto X1.here hx rfl (pc0 := 14) (pc' := 31) rfl (hb hby at_14) (by decide) (by decide) k) ?_
    show own_Gl _ _ _ _ _ _ _ (T1.setTop (mkF m 31 #[.val (.int p1), .val (.int p2), .val (.int ((p1 &&& (2147483647 : Int32)) % (3 : Int32))), .unset, .unset, .unset, .unset, .unset, .unset] [(.ref t)]))
    refine own_st (fun _ k => XS.astoreN X1.here hx rfl (hb hby at_31) rfl rfl (l' := #[.val (.int p1), .val (.int p2), .val (.int ((p1 &&& (2147483647 : Int32)) % (3 : Int32))), .val (.ref t), .unset, .unset, .unset, .unset, .unset]) rfl k) ?_
    show own_Gl _ _ _ _ _ _ _ (T1.setTop (mkF m 32 #[.val (.int p1), .val (.int p2), .val (.int ((p1 &&& (2147483647 : Int32)) % (3 : Int32))), .val (.ref t), .unset, .unset, .unset, .unset, .unset] []))
    refine own_st (fun _ k => XS.iloadN X1.here hx rfl (hb hby at_32) rfl k) ?_
    show own_Gl _ _ _ _ _ _ _ (T1.setTop (mkF m 33 #[.val (.int p1), .val (.int p2), .val (.int ((p1 &&& (2147483647 : Int32)) % (3 : Int32))), .val (.ref t), .unset, .unset, .unset, .unset, .unset] [(.int ((p1 &&& (2147483647 : Int32)) % (3 : Int32)))]))
    have hd2 : ((p1 &&& (2147483647 : Int32)) % (3 : Int32)) = (0 : Int32) := hc8
    refine own_st (fun _ k => XS.ifNo X1.here hx rfl (hb hby at_33) rfl ((if0 _ _).trans (teq hd2).2) k) ?_
    show own_Gl _ _ _ _ _ _ _ (T1.setTop (mkF m 36 #[.val (.int p1), .val (.int p2), .val (.int ((p1 &&& (2147483647 : Int32)) % (3 : Int32))), .val (.ref t), .unset, .unset, .unset, .unset, .unset] []))
    obtain ⟨T3, X3, e3, st3⟩ := getS2 X1 hx hZ hown (host := "") (Or.inl (hw _ (List.mem_of_getElem? (i := 4) rfl))) Via.refl e1 S_FALSE (g := (mkF m 36 #[.val (.int p1), .val (.int p2), .val (.int ((p1 &&& (2147483647 : Int32)) % (3 : Int32))), .val (.ref t), .unset, .unset, .unset, .unset, .unset] [])) rfl (hb hby at_36)
    refine own_st st3 ?_
    show own_Gl _ _ _ _ _ _ _ (T3.setTop (mkF m 39 #[.val (.int p1), .val (.int p2), .val (.int ((p1 &&& (2147483647 : Int32)) % (3 : Int32))), .val (.ref t), .unset, .unset, .unset, .unset, .unset] [(.ref f)]))
    refine own_st (fun _ k => XS.goto X3.here hx rfl (pc0 := 39) (pc' := 56) rfl (hb hby at_39) (by decide) (by decide) k) ?_
    show own_Gl _ _ _ _ _ _ _ (T3.setTop (mkF m 56 #[.val (.int p1), .val (.int p2), .val (.int ((p1 &&& (2147483647 : Int32)) % (3 : Int32))), .val (.ref t), .unset, .unset, .unset, .unset, .unset] [(.ref f)]))
    refine own_st (fun _ k => XS.astore X3.here hx rfl (hb hby at_56) rfl rfl (l' := #[.val (.int p1), .val (.int p2), .val (.int ((p1 &&& (2147483647 : Int32)) % (3 : Int32))), .val (.ref t), .val (.ref f), .unset, .unset, .unset, .unset]) rfl k) ?_
    show own_Gl _ _ _ _ _ _ _ (T3.setTop (mkF m 58 #[.val (.int p1), .val (.int p2), .val (.int ((p1 &&& (2147483647 : Int32)) % (3 : Int32))), .val (.ref t), .val (.ref f), .unset, .unset, .unset, .unset] []))
    refine own_st (fun _ k => XS.aloadN X3.here hx rfl (hb hby at_58) rfl rfl k) ?_
    show own_Gl _ _ _ _ _ _ _ (T3.setTop (mkF m 59 #[.val (.int p1), .val (.int p2), .val (.int ((p1 &&& (2147483647 : Int32)) % (3 : Int32))), .val (.ref t), .val (.ref f), .unset, .unset, .unset, .unset] [(.ref t)]))
    obtain ⟨cq4, kq4, q4a, q4b, q4c⟩ := isOf hZ e3 E_t
    obtain ⟨_, _, ⟨T4, L4, k4, n4⟩, -, X4, ⟨Lc4, hQ4, l4, y4, z4⟩, st4⟩ := X3.virtualBack hx (y := (⟨"smalti/space/Condition$Truth", "not", "()Lsmalti/space/Condition$Truth;"⟩ : MethodName)) (z := (⟨"smalti/space/Condition$Truth", "not", "()Lsmalti/space/Condition$Truth;"⟩ : MethodName)) hown (mvT hZ (hw _ (List.mem_of_getElem? (i := 6) rfl))) (mvT hZ (hw _ (List.mem_of_getElem? (i := 7) rfl))) (notFace_of_selects (args := #[]) (mvT hZ (hw _ (List.mem_of_getElem? (i := 9) rfl)))) (mvT hZ (hw _ (List.mem_of_getElem? (i := 9) rfl))) (mvT hZ (hw _ (List.mem_of_getElem? (i := 8) rfl))) (by decide) (backOf (W := 0) (own_not_t l Z a0 hw [] t f u h0 n0 Z0 S_TRUE S_FALSE S_UNKNOWN ne_t_f ne_t_u ne_f_u) hZ (hw _ (List.mem_of_getElem? (i := 10) rfl)) (hw _ (List.mem_of_getElem? (i := 2) rfl)) (by decide) (by decide)) q4a q4c (g := (mkF m 59 #[.val (.int p1), .val (.int p2), .val (.int ((p1 &&& (2147483647 : Int32)) % (3 : Int32))), .val (.ref t), .val (.ref f), .unset, .unset, .unset, .unset] [(.ref t)])) rfl (by rw [hml]; rfl) (Steps.refl _) (argsL := []) (rest := []) (lenOf own_pd577329010 rfl) rfl (by show 2 * 0 + _ ≤ _; exact Nat.le_of_eq rfl) (hb hby at_59) (fun _ _ => ⟨rfl, e3, (by decide : 0 + 0 ≤ room_1.cells), (by decide : 0 + 0 ≤ room_1.slots)⟩)
    dsimp only [Pt.U, Pt.locs, Pt.cells, Pt.slots] at X4 l4 y4 z4 st4 hQ4
    subst l4 y4 z4
    obtain ⟨hh4, eh04⟩ : ∃ z, T4.heap = z := ⟨_, rfl⟩
    rw [eh04] at hQ4
    obtain ⟨rfl, Nq4, eh4⟩ := hQ4
    have N4 := Fr.app N0 Nq4
    refine own_tr st4 ?_
    have e4 : T4.heap = h0 := eh04.trans eh4
    show own_Gl _ _ _ _ _ _ _ (T4.setTop (mkF m 62 #[.val (.int p1), .val (.int p2), .val (.int ((p1 &&& (2147483647 : Int32)) % (3 : Int32))), .val (.ref t), .val (.ref f), .unset, .unset, .unset, .unset] [(.ref f)]))
    refine own_st (fun _ k => XS.astore X4.here hx rfl (hb hby at_62) rfl rfl (l' := #[.val (.int p1), .val (.int p2), .val (.int ((p1 &&& (2147483647 : Int32)) % (3 : Int32))), .val (.ref t), .val (.ref f), .val (.ref f), .unset, .unset, .unset]) rfl k) ?_
    show own_Gl _ _ _ _ _ _ _ (T4.setTop (mkF m 64 #[.val (.int p1), .val (.int p2), .val (.int ((p1 &&& (2147483647 : Int32)) % (3 : Int32))), .val (.ref t), .val (.ref f), .val (.ref f), .unset, .unset, .unset] []))
    refine own_st (fun _ k => XS.iloadN X4.here hx rfl (hb hby at_64) rfl k) ?_
    show own_Gl _ _ _ _ _ _ _ (T4.setTop (mkF m 65 #[.val (.int p1), .val (.int p2), .val (.int ((p1 &&& (2147483647 : Int32)) % (3 : Int32))), .val (.ref t), .val (.ref f), .val (.ref f), .unset, .unset, .unset] [(.int p2)]))
    refine own_st (fun _ k => XS.iconst X4.here hx rfl (hb hby at_65) k) ?_
    show own_Gl _ _ _ _ _ _ _ (T4.setTop (mkF m 66 #[.val (.int p1), .val (.int p2), .val (.int ((p1 &&& (2147483647 : Int32)) % (3 : Int32))), .val (.ref t), .val (.ref f), .val (.ref f), .unset, .unset, .unset] [(.int (1 : Int32)), (.int p2)]))
    refine own_st (fun _ k => XS.iand X4.here hx rfl (hb hby at_66) rfl k) ?_
    show own_Gl _ _ _ _ _ _ _ (T4.setTop (mkF m 67 #[.val (.int p1), .val (.int p2), .val (.int ((p1 &&& (2147483647 : Int32)) % (3 : Int32))), .val (.ref t), .val (.ref f), .val (.ref f), .unset, .unset, .unset] [(.int (p2 &&& (1 : Int32)))]))
    by_cases hc67 : (p2 &&& (1 : Int32)) = (0 : Int32)
    · refine own_st (fun _ k => XS.ifYes X4.here hx rfl (pc0 := 67) (pc' := 74) rfl (hb hby at_67) rfl ((if0 _ _).trans (teq hc67).1) (by decide) (by decide) k) ?_
      show own_Gl _ _ _ _ _ _ _ (T4.setTop (mkF m 74 #[.val (.int p1), .val (.int p2), .val (.int ((p1 &&& (2147483647 : Int32)) % (3 : Int32))), .val (.ref t), .val (.ref f), .val (.ref f), .unset, .unset, .unset] []))
      refine own_st (fun _ k => XS.iconst X4.here hx rfl (hb hby at_74) k) ?_
      show own_Gl _ _ _ _ _ _ _ (T4.setTop (mkF m 75 #[.val (.int p1), .val (.int p2), .val (.int ((p1 &&& (2147483647 : Int32)) % (3 : Int32))), .val (.ref t), .val (.ref f), .val (.ref f), .unset, .unset, .unset] [(.int (0 : Int32))]))
      refine own_st (fun _ k => XS.istore X4.here hx rfl (hb hby at_75) rfl (l' := #[.val (.int p1), .val (.int p2), .val (.int ((p1 &&& (2147483647 : Int32)) % (3 : Int32))), .val (.ref t), .val (.ref f), .val (.ref f), .val (.int (0 : Int32)), .unset, .unset]) rfl k) ?_
      show own_Gl _ _ _ _ _ _ _ (T4.setTop (mkF m 77 #[.val (.int p1), .val (.int p2), .val (.int ((p1 &&& (2147483647 : Int32)) % (3 : Int32))), .val (.ref t), .val (.ref f), .val (.ref f), .val (.int (0 : Int32)), .unset, .unset] []))
      refine own_st (fun _ k => XS.iload X4.here hx rfl (hb hby at_77) rfl k) ?_
      show own_Gl _ _ _ _ _ _ _ (T4.setTop (mkF m 79 #[.val (.int p1), .val (.int p2), .val (.int ((p1 &&& (2147483647 : Int32)) % (3 : Int32))), .val (.ref t), .val (.ref f), .val (.ref f), .val (.int (0 : Int32)), .unset, .unset] [(.int (0 : Int32))]))
      obtain ⟨_, _, ⟨T5, L5, k5, n5⟩, -, X5, ⟨Lc5, hQ5, l5, y5, z5⟩, st5⟩ := Jvm.LawKit.callS X4 hx (y := (⟨"smalti/space/Condition$Truth", "of", "(Z)Lsmalti/space/Condition$Truth;"⟩ : MethodName)) hown (mvT hZ (hw _ (List.mem_of_getElem? (i := 13) rfl))) (mvT hZ (hw _ (List.mem_of_getElem? (i := 14) rfl))) (mvT hZ (hw _ (List.mem_of_getElem? (i := 2) rfl))) (mvT hZ (hw _ (List.mem_of_getElem? (i := 15) rfl))) (by decide) (backOf (W := 0) (own_of_0 l Z a0 hw [] t f u h0 n0 Z0 S_TRUE S_FALSE S_UNKNOWN) hZ (hw _ (List.mem_of_getElem? (i := 15) rfl)) (hw _ (List.mem_of_getElem? (i := 2) rfl)) (by decide) (by decide)) (g := (mkF m 79 #[.val (.int p1), .val (.int p2), .val (.int ((p1 &&& (2147483647 : Int32)) % (3 : Int32))), .val (.ref t), .val (.ref f), .val (.ref f), .val (.int (0 : Int32)), .unset, .unset] [(.int (0 : Int32))])) rfl (by rw [hml]; rfl) (argsL := [(.int (0 : Int32))]) (rest := []) (lenOf own_pd211156806 rfl) rfl (by show 2 * 0 + _ ≤ _; exact Nat.le_of_eq rfl) (hb hby at_79) (fun _ _ => ⟨rfl, e4, (by decide : 0 + 0 ≤ room_1.cells), (by decide : 0 + 0 ≤ room_1.slots)⟩)
      dsimp only [Pt.U, Pt.locs, Pt.cells, Pt.slots] at X5 l5 y5 z5 st5 hQ5
      subst l5 y5 z5
      obtain ⟨hh5, eh05⟩ : ∃ z, T5.heap = z := ⟨_, rfl⟩
      rw [eh05] at hQ5
      obtain ⟨rfl, Nq5, eh5⟩ := hQ5
      have N5 := Fr.app N4 Nq5
      refine own_st st5 ?_
      have e5 : T5.heap = h0 := eh05.trans eh5
      show own_Gl _ _ _ _ _ _ _ (T5.setTop (mkF m 82 #[.val (.int p1), .val (.int p2), .val (.int ((p1 &&& (2147483647 : Int32)) % (3 : Int32))), .val (.ref t), .val (.ref f), .val (.ref f), .val (.int (0 : Int32)), .unset, .unset] [(.ref f)]))
      obtain ⟨cq6, kq6, q6a, q6b, q6c⟩ := isOf hZ e5 E_f
      obtain ⟨_, _, ⟨T6, L6, k6, n6⟩, -, X6, ⟨Lc6, hQ6, l6, y6, z6⟩, st6⟩ := X5.virtualBack hx (y := (⟨"smalti/space/Condition$Truth", "not", "()Lsmalti/space/Condition$Truth;"⟩ : MethodName)) (z := (⟨"smalti/space/Condition$Truth", "not", "()Lsmalti/space/Condition$Truth;"⟩ : MethodName)) hown (mvT hZ (hw _ (List.mem_of_getElem? (i := 6) rfl))) (mvT hZ (hw _ (List.mem_of_getElem? (i := 7) rfl))) (notFace_of_selects (args := #[]) (mvT hZ (hw _ (List.mem_of_getElem? (i := 9) rfl)))) (mvT hZ (hw _ (List.mem_of_getElem? (i := 9) rfl))) (mvT hZ (hw _ (List.mem_of_getElem? (i := 8) rfl))) (by decide) (backOf (W := 0) (own_not_f l Z a0 hw [] t f u h0 n0 Z0 S_TRUE S_FALSE S_UNKNOWN ne_t_f ne_t_u ne_f_u) hZ (hw _ (List.mem_of_getElem? (i := 10) rfl)) (hw _ (List.mem_of_getElem? (i := 2) rfl)) (by decide) (by decide)) q6a q6c (g := (mkF m 82 #[.val (.int p1), .val (.int p2), .val (.int ((p1 &&& (2147483647 : Int32)) % (3 : Int32))), .val (.ref t), .val (.ref f), .val (.ref f), .val (.int (0 : Int32)), .unset, .unset] [(.ref f)])) rfl (by rw [hml]; rfl) (Steps.refl _) (argsL := []) (rest := []) (lenOf own_pd577329010 rfl) rfl (by show 2 * 0 + _ ≤ _; exact Nat.le_of_eq rfl) (hb hby at_82) (fun _ _ => ⟨rfl, e5, (by decide : 0 + 0 ≤ room_1.cells), (by decide : 0 + 0 ≤ room_1.slots)⟩)
      dsimp only [Pt.U, Pt.locs, Pt.cells, Pt.slots] at X6 l6 y6 z6 st6 hQ6
      subst l6 y6 z6
      obtain ⟨hh6, eh06⟩ : ∃ z, T6.heap = z := ⟨_, rfl⟩
      rw [eh06] at hQ6
      obtain ⟨rfl, Nq6, eh6⟩ := hQ6
      have N6 := Fr.app N5 Nq6
      refine own_tr st6 ?_
      have e6 : T6.heap = h0 := eh06.trans eh6
      show own_Gl _ _ _ _ _ _ _ (T6.setTop (mkF m 85 #[.val (.int p1), .val (.int p2), .val (.int ((p1 &&& (2147483647 : Int32)) % (3 : Int32))), .val (.ref t), .val (.ref f), .val (.ref f), .val (.int (0 : Int32)), .unset, .unset] [(.ref t)]))
      refine own_st (fun _ k => XS.astore X6.here hx rfl (hb hby at_85) rfl rfl (l' := #[.val (.int p1), .val (.int p2), .val (.int ((p1 &&& (2147483647 : Int32)) % (3 : Int32))), .val (.ref t), .val (.ref f), .val (.ref f), .val (.int (0 : Int32)), .val (.ref t), .unset]) rfl k) ?_
      show own_Gl _ _ _ _ _ _ _ (T6.setTop (mkF m 87 #[.val (.int p1), .val (.int p2), .val (.int ((p1 &&& (2147483647 : Int32)) % (3 : Int32))), .val (.ref t), .val (.ref f), .val (.ref f), .val (.int (0 : Int32)), .val (.ref t), .unset] []))
      refine own_st (fun _ k => XS.iload X6.here hx rfl (hb hby at_87) rfl k) ?_
      show own_Gl _ _ _ _ _ _ _ (T6.setTop (mkF m 89 #[.val (.int p1), .val (.int p2), .val (.int ((p1 &&& (2147483647 : Int32)) % (3 : Int32))), .val (.ref t), .val (.ref f), .val (.ref f), .val (.int (0 : Int32)), .val (.ref t), .unset] [(.int (0 : Int32))]))
      have hd7 : (0 : Int32) = (0 : Int32) := (by decide)
      refine own_st (fun _ k => XS.ifNo X6.here hx rfl (hb hby at_89) rfl ((if0 _ _).trans (teq hd7).2) k) ?_
      show own_Gl _ _ _ _ _ _ _ (T6.setTop (mkF m 92 #[.val (.int p1), .val (.int p2), .val (.int ((p1 &&& (2147483647 : Int32)) % (3 : Int32))), .val (.ref t), .val (.ref f), .val (.ref f), .val (.int (0 : Int32)), .val (.ref t), .unset] []))
      refine own_st (fun _ k => XS.iconst X6.here hx rfl (hb hby at_92) k) ?_
      show own_Gl _ _ _ _ _ _ _ (T6.setTop (mkF m 93 #[.val (.int p1), .val (.int p2), .val (.int ((p1 &&& (2147483647 : Int32)) % (3 : Int32))), .val (.ref t), .val (.ref f), .val (.ref f), .val (.int (0 : Int32)), .val (.ref t), .unset] [(.int (1 : Int32))]))
      refine own_st (fun _ k => XS.goto X6.here hx rfl (pc0 := 93) (pc' := 97) rfl (hb hby at_93) (by decide) (by decide) k) ?_
      show own_Gl _ _ _ _ _ _ _ (T6.setTop (mkF m 97 #[.val (.int p1), .val (.int p2), .val (.int ((p1 &&& (2147483647 : Int32)) % (3 : Int32))), .val (.ref t), .val (.ref f), .val (.ref f), .val (.int (0 : Int32)), .val (.ref t), .unset] [(.int (1 : Int32))]))
      obtain ⟨_, _, ⟨T8, L8, k8, n8⟩, -, X8, ⟨Lc8, hQ8, l8, y8, z8⟩, st8⟩ := Jvm.LawKit.callS X6 hx (y := (⟨"smalti/space/Condition$Truth", "of", "(Z)Lsmalti/space/Condition$Truth;"⟩ : MethodName)) hown (mvT hZ (hw _ (List.mem_of_getElem? (i := 13) rfl))) (mvT hZ (hw _ (List.mem_of_getElem? (i := 14) rfl))) (mvT hZ (hw _ (List.mem_of_getElem? (i := 2) rfl))) (mvT hZ (hw _ (List.mem_of_getElem? (i := 15) rfl))) (by decide) (backOf (W := 0) (own_of_1 l Z a0 hw [] t f u h0 n0 Z0 S_TRUE S_FALSE S_UNKNOWN) hZ (hw _ (List.mem_of_getElem? (i := 15) rfl)) (hw _ (List.mem_of_getElem? (i := 2) rfl)) (by decide) (by decide)) (g := (mkF m 97 #[.val (.int p1), .val (.int p2), .val (.int ((p1 &&& (2147483647 : Int32)) % (3 : Int32))), .val (.ref t), .val (.ref f), .val (.ref f), .val (.int (0 : Int32)), .val (.ref t), .unset] [(.int (1 : Int32))])) rfl (by rw [hml]; rfl) (argsL := [(.int (1 : Int32))]) (rest := []) (lenOf own_pd211156806 rfl) rfl (by show 2 * 0 + _ ≤ _; exact Nat.le_of_eq rfl) (hb hby at_97) (fun _ _ => ⟨rfl, e6, (by decide : 0 + 0 ≤ room_1.cells), (by decide : 0 + 0 ≤ room_1.slots)⟩)
      dsimp only [Pt.U, Pt.locs, Pt.cells, Pt.slots] at X8 l8 y8 z8 st8 hQ8
      subst l8 y8 z8
      obtain ⟨hh8, eh08⟩ : ∃ z, T8.heap = z := ⟨_, rfl⟩
      rw [eh08] at hQ8
      obtain ⟨rfl, Nq8, eh8⟩ := hQ8
      have N8 := Fr.app N6 Nq8
      refine own_st st8 ?_
      have e8 : T8.heap = h0 := eh08.trans eh8
      show own_Gl _ _ _ _ _ _ _ (T8.setTop (mkF m 100 #[.val (.int p1), .val (.int p2), .val (.int ((p1 &&& (2147483647 : Int32)) % (3 : Int32))), .val (.ref t), .val (.ref f), .val (.ref f), .val (.int (0 : Int32)), .val (.ref t), .unset] [(.ref t)]))
      refine own_st (fun _ k => XS.astore X8.here hx rfl (hb hby at_100) rfl rfl (l' := #[.val (.int p1), .val (.int p2), .val (.int ((p1 &&& (2147483647 : Int32)) % (3 : Int32))), .val (.ref t), .val (.ref f), .val (.ref f), .val (.int (0 : Int32)), .val (.ref t), .val (.ref t)]) rfl k) ?_
      show own_Gl _ _ _ _ _ _ _ (T8.setTop (mkF m 102 #[.val (.int p1), .val (.int p2), .val (.int ((p1 &&& (2147483647 : Int32)) % (3 : Int32))), .val (.ref t), .val (.ref f), .val (.ref f), .val (.int (0 : Int32)), .val (.ref t), .val (.ref t)] []))
      refine own_st (fun _ k => XS.aload X8.here hx rfl (hb hby at_102) rfl rfl k) ?_
      show own_Gl _ _ _ _ _ _ _ (T8.setTop (mkF m 104 #[.val (.int p1), .val (.int p2), .val (.int ((p1 &&& (2147483647 : Int32)) % (3 : Int32))), .val (.ref t), .val (.ref f), .val (.ref f), .val (.int (0 : Int32)), .val (.ref t), .val (.ref t)] [(.ref f)]))
      refine own_st (fun _ k => XS.aload X8.here hx rfl (hb hby at_104) rfl rfl k) ?_
      show own_Gl _ _ _ _ _ _ _ (T8.setTop (mkF m 106 #[.val (.int p1), .val (.int p2), .val (.int ((p1 &&& (2147483647 : Int32)) % (3 : Int32))), .val (.ref t), .val (.ref f), .val (.ref f), .val (.int (0 : Int32)), .val (.ref t), .val (.ref t)] [(.ref f), (.ref f)]))
      refine own_st (fun _ k => Jvm.RoadKit.acmp (g := (mkF m 106 #[.val (.int p1), .val (.int p2), .val (.int ((p1 &&& (2147483647 : Int32)) % (3 : Int32))), .val (.ref t), .val (.ref f), .val (.ref f), .val (.int (0 : Int32)), .val (.ref t), .val (.ref t)] [(.ref f), (.ref f)])) X8 hx rfl rfl rfl (pc0 := 106) (pc' := 109) (same := true) rfl (hb hby at_106) rfl (decide_eq_true rfl) (by decide) (by decide) k) ?_
      show own_Gl _ _ _ _ _ _ _ (T8.setTop (mkF m 109 #[.val (.int p1), .val (.int p2), .val (.int ((p1 &&& (2147483647 : Int32)) % (3 : Int32))), .val (.ref t), .val (.ref f), .val (.ref f), .val (.int (0 : Int32)), .val (.ref t), .val (.ref t)] []))
      refine own_st (fun _ k => XS.aload X8.here hx rfl (hb hby at_109) rfl rfl k) ?_
      show own_Gl _ _ _ _ _ _ _ (T8.setTop (mkF m 111 #[.val (.int p1), .val (.int p2), .val (.int ((p1 &&& (2147483647 : Int32)) % (3 : Int32))), .val (.ref t), .val (.ref f), .val (.ref f), .val (.int (0 : Int32)), .val (.ref t), .val (.ref t)] [(.ref f)]))
      obtain ⟨cq9, kq9, q9a, q9b, q9c⟩ := isOf hZ e8 E_f
      obtain ⟨_, _, ⟨T9, L9, k9, n9⟩, -, X9, ⟨Lc9, hQ9, l9, y9, z9⟩, st9⟩ := X8.virtualBack hx (y := (⟨"smalti/space/Condition$Truth", "not", "()Lsmalti/space/Condition$Truth;"⟩ : MethodName)) (z := (⟨"smalti/space/Condition$Truth", "not", "()Lsmalti/space/Condition$Truth;"⟩ : MethodName)) hown (mvT hZ (hw _ (List.mem_of_getElem? (i := 6) rfl))) (mvT hZ (hw _ (List.mem_of_getElem? (i := 7) rfl))) (notFace_of_selects (args := #[]) (mvT hZ (hw _ (List.mem_of_getElem? (i := 9) rfl)))) (mvT hZ (hw _ (List.mem_of_getElem? (i := 9) rfl))) (mvT hZ (hw _ (List.mem_of_getElem? (i := 8) rfl))) (by decide) (backOf (W := 0) (own_not_f l Z a0 hw [] t f u h0 n0 Z0 S_TRUE S_FALSE S_UNKNOWN ne_t_f ne_t_u ne_f_u) hZ (hw _ (List.mem_of_getElem? (i := 10) rfl)) (hw _ (List.mem_of_getElem? (i := 2) rfl)) (by decide) (by decide)) q9a q9c (g := (mkF m 111 #[.val (.int p1), .val (.int p2), .val (.int ((p1 &&& (2147483647 : Int32)) % (3 : Int32))), .val (.ref t), .val (.ref f), .val (.ref f), .val (.int (0 : Int32)), .val (.ref t), .val (.ref t)] [(.ref f)])) rfl (by rw [hml]; rfl) (Steps.refl _) (argsL := []) (rest := []) (lenOf own_pd577329010 rfl) rfl (by show 2 * 0 + _ ≤ _; exact Nat.le_of_eq rfl) (hb hby at_111) (fun _ _ => ⟨rfl, e8, (by decide : 0 + 0 ≤ room_1.cells), (by decide : 0 + 0 ≤ room_1.slots)⟩)
      dsimp only [Pt.U, Pt.locs, Pt.cells, Pt.slots] at X9 l9 y9 z9 st9 hQ9
      subst l9 y9 z9
      obtain ⟨hh9, eh09⟩ : ∃ z, T9.heap = z := ⟨_, rfl⟩
      rw [eh09] at hQ9
      obtain ⟨rfl, Nq9, eh9⟩ := hQ9
      have N9 := Fr.app N8 Nq9
      refine own_tr st9 ?_
      have e9 : T9.heap = h0 := eh09.trans eh9
      show own_Gl _ _ _ _ _ _ _ (T9.setTop (mkF m 114 #[.val (.int p1), .val (.int p2), .val (.int ((p1 &&& (2147483647 : Int32)) % (3 : Int32))), .val (.ref t), .val (.ref f), .val (.ref f), .val (.int (0 : Int32)), .val (.ref t), .val (.ref t)] [(.ref t)]))
      refine own_st (fun _ k => XS.aloadN X9.here hx rfl (hb hby at_114) rfl rfl k) ?_
      show own_Gl _ _ _ _ _ _ _ (T9.setTop (mkF m 115 #[.val (.int p1), .val (.int p2), .val (.int ((p1 &&& (2147483647 : Int32)) % (3 : Int32))), .val (.ref t), .val (.ref f), .val (.ref f), .val (.int (0 : Int32)), .val (.ref t), .val (.ref t)] [(.ref t), (.ref t)]))
      refine own_st (fun _ k => Jvm.RoadKit.acmp (g := (mkF m 115 #[.val (.int p1), .val (.int p2), .val (.int ((p1 &&& (2147483647 : Int32)) % (3 : Int32))), .val (.ref t), .val (.ref f), .val (.ref f), .val (.int (0 : Int32)), .val (.ref t), .val (.ref t)] [(.ref t), (.ref t)])) X9 hx rfl rfl rfl (pc0 := 115) (pc' := 118) (same := true) rfl (hb hby at_115) rfl (decide_eq_true rfl) (by decide) (by decide) k) ?_
      show own_Gl _ _ _ _ _ _ _ (T9.setTop (mkF m 118 #[.val (.int p1), .val (.int p2), .val (.int ((p1 &&& (2147483647 : Int32)) % (3 : Int32))), .val (.ref t), .val (.ref f), .val (.ref f), .val (.int (0 : Int32)), .val (.ref t), .val (.ref t)] []))
      refine own_st (fun _ k => XS.aload X9.here hx rfl (hb hby at_118) rfl rfl k) ?_
      show own_Gl _ _ _ _ _ _ _ (T9.setTop (mkF m 120 #[.val (.int p1), .val (.int p2), .val (.int ((p1 &&& (2147483647 : Int32)) % (3 : Int32))), .val (.ref t), .val (.ref f), .val (.ref f), .val (.int (0 : Int32)), .val (.ref t), .val (.ref t)] [(.ref t)]))
      refine own_st (fun _ k => XS.aload X9.here hx rfl (hb hby at_120) rfl rfl k) ?_
      show own_Gl _ _ _ _ _ _ _ (T9.setTop (mkF m 122 #[.val (.int p1), .val (.int p2), .val (.int ((p1 &&& (2147483647 : Int32)) % (3 : Int32))), .val (.ref t), .val (.ref f), .val (.ref f), .val (.int (0 : Int32)), .val (.ref t), .val (.ref t)] [(.ref t), (.ref t)]))
      refine own_st (fun _ k => Jvm.RoadKit.acmp (g := (mkF m 122 #[.val (.int p1), .val (.int p2), .val (.int ((p1 &&& (2147483647 : Int32)) % (3 : Int32))), .val (.ref t), .val (.ref f), .val (.ref f), .val (.int (0 : Int32)), .val (.ref t), .val (.ref t)] [(.ref t), (.ref t)])) X9 hx rfl rfl rfl (pc0 := 122) (pc' := 125) (same := true) rfl (hb hby at_122) rfl (decide_eq_true rfl) (by decide) (by decide) k) ?_
      show own_Gl _ _ _ _ _ _ _ (T9.setTop (mkF m 125 #[.val (.int p1), .val (.int p2), .val (.int ((p1 &&& (2147483647 : Int32)) % (3 : Int32))), .val (.ref t), .val (.ref f), .val (.ref f), .val (.int (0 : Int32)), .val (.ref t), .val (.ref t)] []))
      refine own_st (fun _ k => XS.iconst X9.here hx rfl (hb hby at_125) k) ?_
      show own_Gl _ _ _ _ _ _ _ (T9.setTop (mkF m 126 #[.val (.int p1), .val (.int p2), .val (.int ((p1 &&& (2147483647 : Int32)) % (3 : Int32))), .val (.ref t), .val (.ref f), .val (.ref f), .val (.int (0 : Int32)), .val (.ref t), .val (.ref t)] [(.int (1 : Int32))]))
      refine own_st (fun _ k => XS.goto X9.here hx rfl (pc0 := 126) (pc' := 130) rfl (hb hby at_126) (by decide) (by decide) k) ?_
      show own_Gl _ _ _ _ _ _ _ (T9.setTop (mkF m 130 #[.val (.int p1), .val (.int p2), .val (.int ((p1 &&& (2147483647 : Int32)) % (3 : Int32))), .val (.ref t), .val (.ref f), .val (.ref f), .val (.int (0 : Int32)), .val (.ref t), .val (.ref t)] [(.int (1 : Int32))]))
      exact own_retN X9 hx hlk (t := .boolean) hret (by simp) (hb hby at_130) e9 ⟨rfl, N9⟩ (by decide) (by decide)
    · refine own_st (fun _ k => XS.ifNo X4.here hx rfl (hb hby at_67) rfl ((if0 _ _).trans (feq hc67).1) k) ?_
      show own_Gl _ _ _ _ _ _ _ (T4.setTop (mkF m 70 #[.val (.int p1), .val (.int p2), .val (.int ((p1 &&& (2147483647 : Int32)) % (3 : Int32))), .val (.ref t), .val (.ref f), .val (.ref f), .unset, .unset, .unset] []))
      refine own_st (fun _ k => XS.iconst X4.here hx rfl (hb hby at_70) k) ?_
      show own_Gl _ _ _ _ _ _ _ (T4.setTop (mkF m 71 #[.val (.int p1), .val (.int p2), .val (.int ((p1 &&& (2147483647 : Int32)) % (3 : Int32))), .val (.ref t), .val (.ref f), .val (.ref f), .unset, .unset, .unset] [(.int (1 : Int32))]))
      refine own_st (fun _ k => XS.goto X4.here hx rfl (pc0 := 71) (pc' := 75) rfl (hb hby at_71) (by decide) (by decide) k) ?_
      show own_Gl _ _ _ _ _ _ _ (T4.setTop (mkF m 75 #[.val (.int p1), .val (.int p2), .val (.int ((p1 &&& (2147483647 : Int32)) % (3 : Int32))), .val (.ref t), .val (.ref f), .val (.ref f), .unset, .unset, .unset] [(.int (1 : Int32))]))
      refine own_st (fun _ k => XS.istore X4.here hx rfl (hb hby at_75) rfl (l' := #[.val (.int p1), .val (.int p2), .val (.int ((p1 &&& (2147483647 : Int32)) % (3 : Int32))), .val (.ref t), .val (.ref f), .val (.ref f), .val (.int (1 : Int32)), .unset, .unset]) rfl k) ?_
      show own_Gl _ _ _ _ _ _ _ (T4.setTop (mkF m 77 #[.val (.int p1), .val (.int p2), .val (.int ((p1 &&& (2147483647 : Int32)) % (3 : Int32))), .val (.ref t), .val (.ref f), .val (.ref f), .val (.int (1 : Int32)), .unset, .unset] []))
      refine own_st (fun _ k => XS.iload X4.here hx rfl (hb hby at_77) rfl k) ?_
      show own_Gl _ _ _ _ _ _ _ (T4.setTop (mkF m 79 #[.val (.int p1), .val (.int p2), .val (.int ((p1 &&& (2147483647 : Int32)) % (3 : Int32))), .val (.ref t), .val (.ref f), .val (.ref f), .val (.int (1 : Int32)), .unset, .unset] [(.int (1 : Int32))]))
      obtain ⟨_, _, ⟨T10, L10, k10, n10⟩, -, X10, ⟨Lc10, hQ10, l10, y10, z10⟩, st10⟩ := Jvm.LawKit.callS X4 hx (y := (⟨"smalti/space/Condition$Truth", "of", "(Z)Lsmalti/space/Condition$Truth;"⟩ : MethodName)) hown (mvT hZ (hw _ (List.mem_of_getElem? (i := 13) rfl))) (mvT hZ (hw _ (List.mem_of_getElem? (i := 14) rfl))) (mvT hZ (hw _ (List.mem_of_getElem? (i := 2) rfl))) (mvT hZ (hw _ (List.mem_of_getElem? (i := 15) rfl))) (by decide) (backOf (W := 0) (own_of_1 l Z a0 hw [] t f u h0 n0 Z0 S_TRUE S_FALSE S_UNKNOWN) hZ (hw _ (List.mem_of_getElem? (i := 15) rfl)) (hw _ (List.mem_of_getElem? (i := 2) rfl)) (by decide) (by decide)) (g := (mkF m 79 #[.val (.int p1), .val (.int p2), .val (.int ((p1 &&& (2147483647 : Int32)) % (3 : Int32))), .val (.ref t), .val (.ref f), .val (.ref f), .val (.int (1 : Int32)), .unset, .unset] [(.int (1 : Int32))])) rfl (by rw [hml]; rfl) (argsL := [(.int (1 : Int32))]) (rest := []) (lenOf own_pd211156806 rfl) rfl (by show 2 * 0 + _ ≤ _; exact Nat.le_of_eq rfl) (hb hby at_79) (fun _ _ => ⟨rfl, e4, (by decide : 0 + 0 ≤ room_1.cells), (by decide : 0 + 0 ≤ room_1.slots)⟩)
      dsimp only [Pt.U, Pt.locs, Pt.cells, Pt.slots] at X10 l10 y10 z10 st10 hQ10
      subst l10 y10 z10
      obtain ⟨hh10, eh010⟩ : ∃ z, T10.heap = z := ⟨_, rfl⟩
      rw [eh010] at hQ10
      obtain ⟨rfl, Nq10, eh10⟩ := hQ10
      have N10 := Fr.app N4 Nq10
      refine own_st st10 ?_
      have e10 : T10.heap = h0 := eh010.trans eh10
      show own_Gl _ _ _ _ _ _ _ (T10.setTop (mkF m 82 #[.val (.int p1), .val (.int p2), .val (.int ((p1 &&& (2147483647 : Int32)) % (3 : Int32))), .val (.ref t), .val (.ref f), .val (.ref f), .val (.int (1 : Int32)), .unset, .unset] [(.ref t)]))
      obtain ⟨cq11, kq11, q11a, q11b, q11c⟩ := isOf hZ e10 E_t
      obtain ⟨_, _, ⟨T11, L11, k11, n11⟩, -, X11, ⟨Lc11, hQ11, l11, y11, z11⟩, st11⟩ := X10.virtualBack hx (y := (⟨"smalti/space/Condition$Truth", "not", "()Lsmalti/space/Condition$Truth;"⟩ : MethodName)) (z := (⟨"smalti/space/Condition$Truth", "not", "()Lsmalti/space/Condition$Truth;"⟩ : MethodName)) hown (mvT hZ (hw _ (List.mem_of_getElem? (i := 6) rfl))) (mvT hZ (hw _ (List.mem_of_getElem? (i := 7) rfl))) (notFace_of_selects (args := #[]) (mvT hZ (hw _ (List.mem_of_getElem? (i := 9) rfl)))) (mvT hZ (hw _ (List.mem_of_getElem? (i := 9) rfl))) (mvT hZ (hw _ (List.mem_of_getElem? (i := 8) rfl))) (by decide) (backOf (W := 0) (own_not_t l Z a0 hw [] t f u h0 n0 Z0 S_TRUE S_FALSE S_UNKNOWN ne_t_f ne_t_u ne_f_u) hZ (hw _ (List.mem_of_getElem? (i := 10) rfl)) (hw _ (List.mem_of_getElem? (i := 2) rfl)) (by decide) (by decide)) q11a q11c (g := (mkF m 82 #[.val (.int p1), .val (.int p2), .val (.int ((p1 &&& (2147483647 : Int32)) % (3 : Int32))), .val (.ref t), .val (.ref f), .val (.ref f), .val (.int (1 : Int32)), .unset, .unset] [(.ref t)])) rfl (by rw [hml]; rfl) (Steps.refl _) (argsL := []) (rest := []) (lenOf own_pd577329010 rfl) rfl (by show 2 * 0 + _ ≤ _; exact Nat.le_of_eq rfl) (hb hby at_82) (fun _ _ => ⟨rfl, e10, (by decide : 0 + 0 ≤ room_1.cells), (by decide : 0 + 0 ≤ room_1.slots)⟩)
      dsimp only [Pt.U, Pt.locs, Pt.cells, Pt.slots] at X11 l11 y11 z11 st11 hQ11
      subst l11 y11 z11
      obtain ⟨hh11, eh011⟩ : ∃ z, T11.heap = z := ⟨_, rfl⟩
      rw [eh011] at hQ11
      obtain ⟨rfl, Nq11, eh11⟩ := hQ11
      have N11 := Fr.app N10 Nq11
      refine own_tr st11 ?_
      have e11 : T11.heap = h0 := eh011.trans eh11
      show own_Gl _ _ _ _ _ _ _ (T11.setTop (mkF m 85 #[.val (.int p1), .val (.int p2), .val (.int ((p1 &&& (2147483647 : Int32)) % (3 : Int32))), .val (.ref t), .val (.ref f), .val (.ref f), .val (.int (1 : Int32)), .unset, .unset] [(.ref f)]))
      refine own_st (fun _ k => XS.astore X11.here hx rfl (hb hby at_85) rfl rfl (l' := #[.val (.int p1), .val (.int p2), .val (.int ((p1 &&& (2147483647 : Int32)) % (3 : Int32))), .val (.ref t), .val (.ref f), .val (.ref f), .val (.int (1 : Int32)), .val (.ref f), .unset]) rfl k) ?_
      show own_Gl _ _ _ _ _ _ _ (T11.setTop (mkF m 87 #[.val (.int p1), .val (.int p2), .val (.int ((p1 &&& (2147483647 : Int32)) % (3 : Int32))), .val (.ref t), .val (.ref f), .val (.ref f), .val (.int (1 : Int32)), .val (.ref f), .unset] []))
      refine own_st (fun _ k => XS.iload X11.here hx rfl (hb hby at_87) rfl k) ?_
      show own_Gl _ _ _ _ _ _ _ (T11.setTop (mkF m 89 #[.val (.int p1), .val (.int p2), .val (.int ((p1 &&& (2147483647 : Int32)) % (3 : Int32))), .val (.ref t), .val (.ref f), .val (.ref f), .val (.int (1 : Int32)), .val (.ref f), .unset] [(.int (1 : Int32))]))
      have hd12 : ¬ ((1 : Int32) = (0 : Int32)) := (by decide)
      refine own_st (fun _ k => XS.ifYes X11.here hx rfl (pc0 := 89) (pc' := 96) rfl (hb hby at_89) rfl ((if0 _ _).trans (feq hd12).2) (by decide) (by decide) k) ?_
      show own_Gl _ _ _ _ _ _ _ (T11.setTop (mkF m 96 #[.val (.int p1), .val (.int p2), .val (.int ((p1 &&& (2147483647 : Int32)) % (3 : Int32))), .val (.ref t), .val (.ref f), .val (.ref f), .val (.int (1 : Int32)), .val (.ref f), .unset] []))
      refine own_st (fun _ k => XS.iconst X11.here hx rfl (hb hby at_96) k) ?_
      show own_Gl _ _ _ _ _ _ _ (T11.setTop (mkF m 97 #[.val (.int p1), .val (.int p2), .val (.int ((p1 &&& (2147483647 : Int32)) % (3 : Int32))), .val (.ref t), .val (.ref f), .val (.ref f), .val (.int (1 : Int32)), .val (.ref f), .unset] [(.int (0 : Int32))]))
      obtain ⟨_, _, ⟨T13, L13, k13, n13⟩, -, X13, ⟨Lc13, hQ13, l13, y13, z13⟩, st13⟩ := Jvm.LawKit.callS X11 hx (y := (⟨"smalti/space/Condition$Truth", "of", "(Z)Lsmalti/space/Condition$Truth;"⟩ : MethodName)) hown (mvT hZ (hw _ (List.mem_of_getElem? (i := 13) rfl))) (mvT hZ (hw _ (List.mem_of_getElem? (i := 14) rfl))) (mvT hZ (hw _ (List.mem_of_getElem? (i := 2) rfl))) (mvT hZ (hw _ (List.mem_of_getElem? (i := 15) rfl))) (by decide) (backOf (W := 0) (own_of_0 l Z a0 hw [] t f u h0 n0 Z0 S_TRUE S_FALSE S_UNKNOWN) hZ (hw _ (List.mem_of_getElem? (i := 15) rfl)) (hw _ (List.mem_of_getElem? (i := 2) rfl)) (by decide) (by decide)) (g := (mkF m 97 #[.val (.int p1), .val (.int p2), .val (.int ((p1 &&& (2147483647 : Int32)) % (3 : Int32))), .val (.ref t), .val (.ref f), .val (.ref f), .val (.int (1 : Int32)), .val (.ref f), .unset] [(.int (0 : Int32))])) rfl (by rw [hml]; rfl) (argsL := [(.int (0 : Int32))]) (rest := []) (lenOf own_pd211156806 rfl) rfl (by show 2 * 0 + _ ≤ _; exact Nat.le_of_eq rfl) (hb hby at_97) (fun _ _ => ⟨rfl, e11, (by decide : 0 + 0 ≤ room_1.cells), (by decide : 0 + 0 ≤ room_1.slots)⟩)
      dsimp only [Pt.U, Pt.locs, Pt.cells, Pt.slots] at X13 l13 y13 z13 st13 hQ13
      subst l13 y13 z13
      obtain ⟨hh13, eh013⟩ : ∃ z, T13.heap = z := ⟨_, rfl⟩
      rw [eh013] at hQ13
      obtain ⟨rfl, Nq13, eh13⟩ := hQ13
      have N13 := Fr.app N11 Nq13
      refine own_st st13 ?_
      have e13 : T13.heap = h0 := eh013.trans eh13
      show own_Gl _ _ _ _ _ _ _ (T13.setTop (mkF m 100 #[.val (.int p1), .val (.int p2), .val (.int ((p1 &&& (2147483647 : Int32)) % (3 : Int32))), .val (.ref t), .val (.ref f), .val (.ref f), .val (.int (1 : Int32)), .val (.ref f), .unset] [(.ref f)]))
      refine own_st (fun _ k => XS.astore X13.here hx rfl (hb hby at_100) rfl rfl (l' := #[.val (.int p1), .val (.int p2), .val (.int ((p1 &&& (2147483647 : Int32)) % (3 : Int32))), .val (.ref t), .val (.ref f), .val (.ref f), .val (.int (1 : Int32)), .val (.ref f), .val (.ref f)]) rfl k) ?_
      show own_Gl _ _ _ _ _ _ _ (T13.setTop (mkF m 102 #[.val (.int p1), .val (.int p2), .val (.int ((p1 &&& (2147483647 : Int32)) % (3 : Int32))), .val (.ref t), .val (.ref f), .val (.ref f), .val (.int (1 : Int32)), .val (.ref f), .val (.ref f)] []))
      refine own_st (fun _ k => XS.aload X13.here hx rfl (hb hby at_102) rfl rfl k) ?_
      show own_Gl _ _ _ _ _ _ _ (T13.setTop (mkF m 104 #[.val (.int p1), .val (.int p2), .val (.int ((p1 &&& (2147483647 : Int32)) % (3 : Int32))), .val (.ref t), .val (.ref f), .val (.ref f), .val (.int (1 : Int32)), .val (.ref f), .val (.ref f)] [(.ref f)]))
      refine own_st (fun _ k => XS.aload X13.here hx rfl (hb hby at_104) rfl rfl k) ?_
      show own_Gl _ _ _ _ _ _ _ (T13.setTop (mkF m 106 #[.val (.int p1), .val (.int p2), .val (.int ((p1 &&& (2147483647 : Int32)) % (3 : Int32))), .val (.ref t), .val (.ref f), .val (.ref f), .val (.int (1 : Int32)), .val (.ref f), .val (.ref f)] [(.ref f), (.ref f)]))
      refine own_st (fun _ k => Jvm.RoadKit.acmp (g := (mkF m 106 #[.val (.int p1), .val (.int p2), .val (.int ((p1 &&& (2147483647 : Int32)) % (3 : Int32))), .val (.ref t), .val (.ref f), .val (.ref f), .val (.int (1 : Int32)), .val (.ref f), .val (.ref f)] [(.ref f), (.ref f)])) X13 hx rfl rfl rfl (pc0 := 106) (pc' := 109) (same := true) rfl (hb hby at_106) rfl (decide_eq_true rfl) (by decide) (by decide) k) ?_
      show own_Gl _ _ _ _ _ _ _ (T13.setTop (mkF m 109 #[.val (.int p1), .val (.int p2), .val (.int ((p1 &&& (2147483647 : Int32)) % (3 : Int32))), .val (.ref t), .val (.ref f), .val (.ref f), .val (.int (1 : Int32)), .val (.ref f), .val (.ref f)] []))
      refine own_st (fun _ k => XS.aload X13.here hx rfl (hb hby at_109) rfl rfl k) ?_
      show own_Gl _ _ _ _ _ _ _ (T13.setTop (mkF m 111 #[.val (.int p1), .val (.int p2), .val (.int ((p1 &&& (2147483647 : Int32)) % (3 : Int32))), .val (.ref t), .val (.ref f), .val (.ref f), .val (.int (1 : Int32)), .val (.ref f), .val (.ref f)] [(.ref f)]))
      obtain ⟨cq14, kq14, q14a, q14b, q14c⟩ := isOf hZ e13 E_f
      obtain ⟨_, _, ⟨T14, L14, k14, n14⟩, -, X14, ⟨Lc14, hQ14, l14, y14, z14⟩, st14⟩ := X13.virtualBack hx (y := (⟨"smalti/space/Condition$Truth", "not", "()Lsmalti/space/Condition$Truth;"⟩ : MethodName)) (z := (⟨"smalti/space/Condition$Truth", "not", "()Lsmalti/space/Condition$Truth;"⟩ : MethodName)) hown (mvT hZ (hw _ (List.mem_of_getElem? (i := 6) rfl))) (mvT hZ (hw _ (List.mem_of_getElem? (i := 7) rfl))) (notFace_of_selects (args := #[]) (mvT hZ (hw _ (List.mem_of_getElem? (i := 9) rfl)))) (mvT hZ (hw _ (List.mem_of_getElem? (i := 9) rfl))) (mvT hZ (hw _ (List.mem_of_getElem? (i := 8) rfl))) (by decide) (backOf (W := 0) (own_not_f l Z a0 hw [] t f u h0 n0 Z0 S_TRUE S_FALSE S_UNKNOWN ne_t_f ne_t_u ne_f_u) hZ (hw _ (List.mem_of_getElem? (i := 10) rfl)) (hw _ (List.mem_of_getElem? (i := 2) rfl)) (by decide) (by decide)) q14a q14c (g := (mkF m 111 #[.val (.int p1), .val (.int p2), .val (.int ((p1 &&& (2147483647 : Int32)) % (3 : Int32))), .val (.ref t), .val (.ref f), .val (.ref f), .val (.int (1 : Int32)), .val (.ref f), .val (.ref f)] [(.ref f)])) rfl (by rw [hml]; rfl) (Steps.refl _) (argsL := []) (rest := []) (lenOf own_pd577329010 rfl) rfl (by show 2 * 0 + _ ≤ _; exact Nat.le_of_eq rfl) (hb hby at_111) (fun _ _ => ⟨rfl, e13, (by decide : 0 + 0 ≤ room_1.cells), (by decide : 0 + 0 ≤ room_1.slots)⟩)
      dsimp only [Pt.U, Pt.locs, Pt.cells, Pt.slots] at X14 l14 y14 z14 st14 hQ14
      subst l14 y14 z14
      obtain ⟨hh14, eh014⟩ : ∃ z, T14.heap = z := ⟨_, rfl⟩
      rw [eh014] at hQ14
      obtain ⟨rfl, Nq14, eh14⟩ := hQ14
      have N14 := Fr.app N13 Nq14
      refine own_tr st14 ?_
      have e14 : T14.heap = h0 := eh014.trans eh14
      show own_Gl _ _ _ _ _ _ _ (T14.setTop (mkF m 114 #[.val (.int p1), .val (.int p2), .val (.int ((p1 &&& (2147483647 : Int32)) % (3 : Int32))), .val (.ref t), .val (.ref f), .val (.ref f), .val (.int (1 : Int32)), .val (.ref f), .val (.ref f)] [(.ref t)]))
      refine own_st (fun _ k => XS.aloadN X14.here hx rfl (hb hby at_114) rfl rfl k) ?_
      show own_Gl _ _ _ _ _ _ _ (T14.setTop (mkF m 115 #[.val (.int p1), .val (.int p2), .val (.int ((p1 &&& (2147483647 : Int32)) % (3 : Int32))), .val (.ref t), .val (.ref f), .val (.ref f), .val (.int (1 : Int32)), .val (.ref f), .val (.ref f)] [(.ref t), (.ref t)]))
      refine own_st (fun _ k => Jvm.RoadKit.acmp (g := (mkF m 115 #[.val (.int p1), .val (.int p2), .val (.int ((p1 &&& (2147483647 : Int32)) % (3 : Int32))), .val (.ref t), .val (.ref f), .val (.ref f), .val (.int (1 : Int32)), .val (.ref f), .val (.ref f)] [(.ref t), (.ref t)])) X14 hx rfl rfl rfl (pc0 := 115) (pc' := 118) (same := true) rfl (hb hby at_115) rfl (decide_eq_true rfl) (by decide) (by decide) k) ?_
      show own_Gl _ _ _ _ _ _ _ (T14.setTop (mkF m 118 #[.val (.int p1), .val (.int p2), .val (.int ((p1 &&& (2147483647 : Int32)) % (3 : Int32))), .val (.ref t), .val (.ref f), .val (.ref f), .val (.int (1 : Int32)), .val (.ref f), .val (.ref f)] []))
      refine own_st (fun _ k => XS.aload X14.here hx rfl (hb hby at_118) rfl rfl k) ?_
      show own_Gl _ _ _ _ _ _ _ (T14.setTop (mkF m 120 #[.val (.int p1), .val (.int p2), .val (.int ((p1 &&& (2147483647 : Int32)) % (3 : Int32))), .val (.ref t), .val (.ref f), .val (.ref f), .val (.int (1 : Int32)), .val (.ref f), .val (.ref f)] [(.ref f)]))
      refine own_st (fun _ k => XS.aload X14.here hx rfl (hb hby at_120) rfl rfl k) ?_
      show own_Gl _ _ _ _ _ _ _ (T14.setTop (mkF m 122 #[.val (.int p1), .val (.int p2), .val (.int ((p1 &&& (2147483647 : Int32)) % (3 : Int32))), .val (.ref t), .val (.ref f), .val (.ref f), .val (.int (1 : Int32)), .val (.ref f), .val (.ref f)] [(.ref f), (.ref f)]))
      refine own_st (fun _ k => Jvm.RoadKit.acmp (g := (mkF m 122 #[.val (.int p1), .val (.int p2), .val (.int ((p1 &&& (2147483647 : Int32)) % (3 : Int32))), .val (.ref t), .val (.ref f), .val (.ref f), .val (.int (1 : Int32)), .val (.ref f), .val (.ref f)] [(.ref f), (.ref f)])) X14 hx rfl rfl rfl (pc0 := 122) (pc' := 125) (same := true) rfl (hb hby at_122) rfl (decide_eq_true rfl) (by decide) (by decide) k) ?_
      show own_Gl _ _ _ _ _ _ _ (T14.setTop (mkF m 125 #[.val (.int p1), .val (.int p2), .val (.int ((p1 &&& (2147483647 : Int32)) % (3 : Int32))), .val (.ref t), .val (.ref f), .val (.ref f), .val (.int (1 : Int32)), .val (.ref f), .val (.ref f)] []))
      refine own_st (fun _ k => XS.iconst X14.here hx rfl (hb hby at_125) k) ?_
      show own_Gl _ _ _ _ _ _ _ (T14.setTop (mkF m 126 #[.val (.int p1), .val (.int p2), .val (.int ((p1 &&& (2147483647 : Int32)) % (3 : Int32))), .val (.ref t), .val (.ref f), .val (.ref f), .val (.int (1 : Int32)), .val (.ref f), .val (.ref f)] [(.int (1 : Int32))]))
      refine own_st (fun _ k => XS.goto X14.here hx rfl (pc0 := 126) (pc' := 130) rfl (hb hby at_126) (by decide) (by decide) k) ?_
      show own_Gl _ _ _ _ _ _ _ (T14.setTop (mkF m 130 #[.val (.int p1), .val (.int p2), .val (.int ((p1 &&& (2147483647 : Int32)) % (3 : Int32))), .val (.ref t), .val (.ref f), .val (.ref f), .val (.int (1 : Int32)), .val (.ref f), .val (.ref f)] [(.int (1 : Int32))]))
      exact own_retN X14 hx hlk (t := .boolean) hret (by simp) (hb hby at_130) e14 ⟨rfl, N14⟩ (by decide) (by decide)
  · refine own_st (fun _ k => XS.ifYes X0.here hx rfl (pc0 := 8) (pc' := 17) rfl (hb hby at_8) rfl ((if0 _ _).trans (feq hc8).2) (by decide) (by decide) k) ?_
    show own_Gl _ _ _ _ _ _ _ (s₁.setTop (mkF m 17 #[.val (.int p1), .val (.int p2), .val (.int ((p1 &&& (2147483647 : Int32)) % (3 : Int32))), .unset, .unset, .unset, .unset, .unset, .unset] []))
    refine own_st (fun _ k => XS.iloadN X0.here hx rfl (hb hby at_17) rfl k) ?_
    show own_Gl _ _ _ _ _ _ _ (s₁.setTop (mkF m 18 #[.val (.int p1), .val (.int p2), .val (.int ((p1 &&& (2147483647 : Int32)) % (3 : Int32))), .unset, .unset, .unset, .unset, .unset, .unset] [(.int ((p1 &&& (2147483647 : Int32)) % (3 : Int32)))]))
    refine own_st (fun _ k => XS.iconst X0.here hx rfl (hb hby at_18) k) ?_
    show own_Gl _ _ _ _ _ _ _ (s₁.setTop (mkF m 19 #[.val (.int p1), .val (.int p2), .val (.int ((p1 &&& (2147483647 : Int32)) % (3 : Int32))), .unset, .unset, .unset, .unset, .unset, .unset] [(.int (1 : Int32)), (.int ((p1 &&& (2147483647 : Int32)) % (3 : Int32)))]))
    by_cases hc19 : ((p1 &&& (2147483647 : Int32)) % (3 : Int32)) = (1 : Int32)
    · refine own_st (fun _ k => XS.icmpNo X0.here hx rfl (hb hby at_19) rfl (teq hc19).2 k) ?_
      show own_Gl _ _ _ _ _ _ _ (s₁.setTop (mkF m 22 #[.val (.int p1), .val (.int p2), .val (.int ((p1 &&& (2147483647 : Int32)) % (3 : Int32))), .unset, .unset, .unset, .unset, .unset, .unset] []))
      obtain ⟨T15, X15, e15, st15⟩ := getS2 X0 hx hZ hown (host := "") (Or.inl (hw _ (List.mem_of_getElem? (i := 4) rfl))) Via.refl e0 S_FALSE (g := (mkF m 22 #[.val (.int p1), .val (.int p2), .val (.int ((p1 &&& (2147483647 : Int32)) % (3 : Int32))), .unset, .unset, .unset, .unset, .unset, .unset] [])) rfl (hb hby at_22)
      refine own_st st15 ?_
      show own_Gl _ _ _ _ _ _ _ (T15.setTop (mkF m 25 #[.val (.int p1), .val (.int p2), .val (.int ((p1 &&& (2147483647 : Int32)) % (3 : Int32))), .unset, .unset, .unset, .unset, .unset, .unset] [(.ref f)]))
      refine own_st (fun _ k => XS.goto X15.here hx rfl (pc0 := 25) (pc' := 31) rfl (hb hby at_25) (by decide) (by decide) k) ?_
      show own_Gl _ _ _ _ _ _ _ (T15.setTop (mkF m 31 #[.val (.int p1), .val (.int p2), .val (.int ((p1 &&& (2147483647 : Int32)) % (3 : Int32))), .unset, .unset, .unset, .unset, .unset, .unset] [(.ref f)]))
      refine own_st (fun _ k => XS.astoreN X15.here hx rfl (hb hby at_31) rfl rfl (l' := #[.val (.int p1), .val (.int p2), .val (.int ((p1 &&& (2147483647 : Int32)) % (3 : Int32))), .val (.ref f), .unset, .unset, .unset, .unset, .unset]) rfl k) ?_
      show own_Gl _ _ _ _ _ _ _ (T15.setTop (mkF m 32 #[.val (.int p1), .val (.int p2), .val (.int ((p1 &&& (2147483647 : Int32)) % (3 : Int32))), .val (.ref f), .unset, .unset, .unset, .unset, .unset] []))
      refine own_st (fun _ k => XS.iloadN X15.here hx rfl (hb hby at_32) rfl k) ?_
      show own_Gl _ _ _ _ _ _ _ (T15.setTop (mkF m 33 #[.val (.int p1), .val (.int p2), .val (.int ((p1 &&& (2147483647 : Int32)) % (3 : Int32))), .val (.ref f), .unset, .unset, .unset, .unset, .unset] [(.int ((p1 &&& (2147483647 : Int32)) % (3 : Int32)))]))
      have hd16 : ¬ (((p1 &&& (2147483647 : Int32)) % (3 : Int32)) = (0 : Int32)) := hc8
      refine own_st (fun _ k => XS.ifYes X15.here hx rfl (pc0 := 33) (pc' := 42) rfl (hb hby at_33) rfl ((if0 _ _).trans (feq hd16).2) (by decide) (by decide) k) ?_
      show own_Gl _ _ _ _ _ _ _ (T15.setTop (mkF m 42 #[.val (.int p1), .val (.int p2), .val (.int ((p1 &&& (2147483647 : Int32)) % (3 : Int32))), .val (.ref f), .unset, .unset, .unset, .unset, .unset] []))
      refine own_st (fun _ k => XS.iloadN X15.here hx rfl (hb hby at_42) rfl k) ?_
      show own_Gl _ _ _ _ _ _ _ (T15.setTop (mkF m 43 #[.val (.int p1), .val (.int p2), .val (.int ((p1 &&& (2147483647 : Int32)) % (3 : Int32))), .val (.ref f), .unset, .unset, .unset, .unset, .unset] [(.int ((p1 &&& (2147483647 : Int32)) % (3 : Int32)))]))
      refine own_st (fun _ k => XS.iconst X15.here hx rfl (hb hby at_43) k) ?_
      show own_Gl _ _ _ _ _ _ _ (T15.setTop (mkF m 44 #[.val (.int p1), .val (.int p2), .val (.int ((p1 &&& (2147483647 : Int32)) % (3 : Int32))), .val (.ref f), .unset, .unset, .unset, .unset, .unset] [(.int (1 : Int32)), (.int ((p1 &&& (2147483647 : Int32)) % (3 : Int32)))]))
      have hd17 : ((p1 &&& (2147483647 : Int32)) % (3 : Int32)) = (1 : Int32) := hc19
      refine own_st (fun _ k => XS.icmpNo X15.here hx rfl (hb hby at_44) rfl (teq hd17).2 k) ?_
      show own_Gl _ _ _ _ _ _ _ (T15.setTop (mkF m 47 #[.val (.int p1), .val (.int p2), .val (.int ((p1 &&& (2147483647 : Int32)) % (3 : Int32))), .val (.ref f), .unset, .unset, .unset, .unset, .unset] []))
      obtain ⟨T18, X18, e18, st18⟩ := getS2 X15 hx hZ hown (host := "") (Or.inl (hw _ (List.mem_of_getElem? (i := 1) rfl))) Via.refl e15 S_TRUE (g := (mkF m 47 #[.val (.int p1), .val (.int p2), .val (.int ((p1 &&& (2147483647 : Int32)) % (3 : Int32))), .val (.ref f), .unset, .unset, .unset, .unset, .unset] [])) rfl (hb hby at_47)
      refine own_st st18 ?_
      show own_Gl _ _ _ _ _ _ _ (T18.setTop (mkF m 50 #[.val (.int p1), .val (.int p2), .val (.int ((p1 &&& (2147483647 : Int32)) % (3 : Int32))), .val (.ref f), .unset, .unset, .unset, .unset, .unset] [(.ref t)]))
      refine own_st (fun _ k => XS.goto X18.here hx rfl (pc0 := 50) (pc' := 56) rfl (hb hby at_50) (by decide) (by decide) k) ?_
      show own_Gl _ _ _ _ _ _ _ (T18.setTop (mkF m 56 #[.val (.int p1), .val (.int p2), .val (.int ((p1 &&& (2147483647 : Int32)) % (3 : Int32))), .val (.ref f), .unset, .unset, .unset, .unset, .unset] [(.ref t)]))
      refine own_st (fun _ k => XS.astore X18.here hx rfl (hb hby at_56) rfl rfl (l' := #[.val (.int p1), .val (.int p2), .val (.int ((p1 &&& (2147483647 : Int32)) % (3 : Int32))), .val (.ref f), .val (.ref t), .unset, .unset, .unset, .unset]) rfl k) ?_
      show own_Gl _ _ _ _ _ _ _ (T18.setTop (mkF m 58 #[.val (.int p1), .val (.int p2), .val (.int ((p1 &&& (2147483647 : Int32)) % (3 : Int32))), .val (.ref f), .val (.ref t), .unset, .unset, .unset, .unset] []))
      refine own_st (fun _ k => XS.aloadN X18.here hx rfl (hb hby at_58) rfl rfl k) ?_
      show own_Gl _ _ _ _ _ _ _ (T18.setTop (mkF m 59 #[.val (.int p1), .val (.int p2), .val (.int ((p1 &&& (2147483647 : Int32)) % (3 : Int32))), .val (.ref f), .val (.ref t), .unset, .unset, .unset, .unset] [(.ref f)]))
      obtain ⟨cq19, kq19, q19a, q19b, q19c⟩ := isOf hZ e18 E_f
      obtain ⟨_, _, ⟨T19, L19, k19, n19⟩, -, X19, ⟨Lc19, hQ19, l19, y19, z19⟩, st19⟩ := X18.virtualBack hx (y := (⟨"smalti/space/Condition$Truth", "not", "()Lsmalti/space/Condition$Truth;"⟩ : MethodName)) (z := (⟨"smalti/space/Condition$Truth", "not", "()Lsmalti/space/Condition$Truth;"⟩ : MethodName)) hown (mvT hZ (hw _ (List.mem_of_getElem? (i := 6) rfl))) (mvT hZ (hw _ (List.mem_of_getElem? (i := 7) rfl))) (notFace_of_selects (args := #[]) (mvT hZ (hw _ (List.mem_of_getElem? (i := 9) rfl)))) (mvT hZ (hw _ (List.mem_of_getElem? (i := 9) rfl))) (mvT hZ (hw _ (List.mem_of_getElem? (i := 8) rfl))) (by decide) (backOf (W := 0) (own_not_f l Z a0 hw [] t f u h0 n0 Z0 S_TRUE S_FALSE S_UNKNOWN ne_t_f ne_t_u ne_f_u) hZ (hw _ (List.mem_of_getElem? (i := 10) rfl)) (hw _ (List.mem_of_getElem? (i := 2) rfl)) (by decide) (by decide)) q19a q19c (g := (mkF m 59 #[.val (.int p1), .val (.int p2), .val (.int ((p1 &&& (2147483647 : Int32)) % (3 : Int32))), .val (.ref f), .val (.ref t), .unset, .unset, .unset, .unset] [(.ref f)])) rfl (by rw [hml]; rfl) (Steps.refl _) (argsL := []) (rest := []) (lenOf own_pd577329010 rfl) rfl (by show 2 * 0 + _ ≤ _; exact Nat.le_of_eq rfl) (hb hby at_59) (fun _ _ => ⟨rfl, e18, (by decide : 0 + 0 ≤ room_1.cells), (by decide : 0 + 0 ≤ room_1.slots)⟩)
      dsimp only [Pt.U, Pt.locs, Pt.cells, Pt.slots] at X19 l19 y19 z19 st19 hQ19
      subst l19 y19 z19
      obtain ⟨hh19, eh019⟩ : ∃ z, T19.heap = z := ⟨_, rfl⟩
      rw [eh019] at hQ19
      obtain ⟨rfl, Nq19, eh19⟩ := hQ19
      have N19 := Fr.app N0 Nq19
      refine own_tr st19 ?_
      have e19 : T19.heap = h0 := eh019.trans eh19
      show own_Gl _ _ _ _ _ _ _ (T19.setTop (mkF m 62 #[.val (.int p1), .val (.int p2), .val (.int ((p1 &&& (2147483647 : Int32)) % (3 : Int32))), .val (.ref f), .val (.ref t), .unset, .unset, .unset, .unset] [(.ref t)]))
      refine own_st (fun _ k => XS.astore X19.here hx rfl (hb hby at_62) rfl rfl (l' := #[.val (.int p1), .val (.int p2), .val (.int ((p1 &&& (2147483647 : Int32)) % (3 : Int32))), .val (.ref f), .val (.ref t), .val (.ref t), .unset, .unset, .unset]) rfl k) ?_
      show own_Gl _ _ _ _ _ _ _ (T19.setTop (mkF m 64 #[.val (.int p1), .val (.int p2), .val (.int ((p1 &&& (2147483647 : Int32)) % (3 : Int32))), .val (.ref f), .val (.ref t), .val (.ref t), .unset, .unset, .unset] []))
      refine own_st (fun _ k => XS.iloadN X19.here hx rfl (hb hby at_64) rfl k) ?_
      show own_Gl _ _ _ _ _ _ _ (T19.setTop (mkF m 65 #[.val (.int p1), .val (.int p2), .val (.int ((p1 &&& (2147483647 : Int32)) % (3 : Int32))), .val (.ref f), .val (.ref t), .val (.ref t), .unset, .unset, .unset] [(.int p2)]))
      refine own_st (fun _ k => XS.iconst X19.here hx rfl (hb hby at_65) k) ?_
      show own_Gl _ _ _ _ _ _ _ (T19.setTop (mkF m 66 #[.val (.int p1), .val (.int p2), .val (.int ((p1 &&& (2147483647 : Int32)) % (3 : Int32))), .val (.ref f), .val (.ref t), .val (.ref t), .unset, .unset, .unset] [(.int (1 : Int32)), (.int p2)]))
      refine own_st (fun _ k => XS.iand X19.here hx rfl (hb hby at_66) rfl k) ?_
      show own_Gl _ _ _ _ _ _ _ (T19.setTop (mkF m 67 #[.val (.int p1), .val (.int p2), .val (.int ((p1 &&& (2147483647 : Int32)) % (3 : Int32))), .val (.ref f), .val (.ref t), .val (.ref t), .unset, .unset, .unset] [(.int (p2 &&& (1 : Int32)))]))
      by_cases hc67 : (p2 &&& (1 : Int32)) = (0 : Int32)
      · refine own_st (fun _ k => XS.ifYes X19.here hx rfl (pc0 := 67) (pc' := 74) rfl (hb hby at_67) rfl ((if0 _ _).trans (teq hc67).1) (by decide) (by decide) k) ?_
        show own_Gl _ _ _ _ _ _ _ (T19.setTop (mkF m 74 #[.val (.int p1), .val (.int p2), .val (.int ((p1 &&& (2147483647 : Int32)) % (3 : Int32))), .val (.ref f), .val (.ref t), .val (.ref t), .unset, .unset, .unset] []))
        refine own_st (fun _ k => XS.iconst X19.here hx rfl (hb hby at_74) k) ?_
        show own_Gl _ _ _ _ _ _ _ (T19.setTop (mkF m 75 #[.val (.int p1), .val (.int p2), .val (.int ((p1 &&& (2147483647 : Int32)) % (3 : Int32))), .val (.ref f), .val (.ref t), .val (.ref t), .unset, .unset, .unset] [(.int (0 : Int32))]))
        refine own_st (fun _ k => XS.istore X19.here hx rfl (hb hby at_75) rfl (l' := #[.val (.int p1), .val (.int p2), .val (.int ((p1 &&& (2147483647 : Int32)) % (3 : Int32))), .val (.ref f), .val (.ref t), .val (.ref t), .val (.int (0 : Int32)), .unset, .unset]) rfl k) ?_
        show own_Gl _ _ _ _ _ _ _ (T19.setTop (mkF m 77 #[.val (.int p1), .val (.int p2), .val (.int ((p1 &&& (2147483647 : Int32)) % (3 : Int32))), .val (.ref f), .val (.ref t), .val (.ref t), .val (.int (0 : Int32)), .unset, .unset] []))
        refine own_st (fun _ k => XS.iload X19.here hx rfl (hb hby at_77) rfl k) ?_
        show own_Gl _ _ _ _ _ _ _ (T19.setTop (mkF m 79 #[.val (.int p1), .val (.int p2), .val (.int ((p1 &&& (2147483647 : Int32)) % (3 : Int32))), .val (.ref f), .val (.ref t), .val (.ref t), .val (.int (0 : Int32)), .unset, .unset] [(.int (0 : Int32))]))
        obtain ⟨_, _, ⟨T20, L20, k20, n20⟩, -, X20, ⟨Lc20, hQ20, l20, y20, z20⟩, st20⟩ := Jvm.LawKit.callS X19 hx (y := (⟨"smalti/space/Condition$Truth", "of", "(Z)Lsmalti/space/Condition$Truth;"⟩ : MethodName)) hown (mvT hZ (hw _ (List.mem_of_getElem? (i := 13) rfl))) (mvT hZ (hw _ (List.mem_of_getElem? (i := 14) rfl))) (mvT hZ (hw _ (List.mem_of_getElem? (i := 2) rfl))) (mvT hZ (hw _ (List.mem_of_getElem? (i := 15) rfl))) (by decide) (backOf (W := 0) (own_of_0 l Z a0 hw [] t f u h0 n0 Z0 S_TRUE S_FALSE S_UNKNOWN) hZ (hw _ (List.mem_of_getElem? (i := 15) rfl)) (hw _ (List.mem_of_getElem? (i := 2) rfl)) (by decide) (by decide)) (g := (mkF m 79 #[.val (.int p1), .val (.int p2), .val (.int ((p1 &&& (2147483647 : Int32)) % (3 : Int32))), .val (.ref f), .val (.ref t), .val (.ref t), .val (.int (0 : Int32)), .unset, .unset] [(.int (0 : Int32))])) rfl (by rw [hml]; rfl) (argsL := [(.int (0 : Int32))]) (rest := []) (lenOf own_pd211156806 rfl) rfl (by show 2 * 0 + _ ≤ _; exact Nat.le_of_eq rfl) (hb hby at_79) (fun _ _ => ⟨rfl, e19, (by decide : 0 + 0 ≤ room_1.cells), (by decide : 0 + 0 ≤ room_1.slots)⟩)
        dsimp only [Pt.U, Pt.locs, Pt.cells, Pt.slots] at X20 l20 y20 z20 st20 hQ20
        subst l20 y20 z20
        obtain ⟨hh20, eh020⟩ : ∃ z, T20.heap = z := ⟨_, rfl⟩
        rw [eh020] at hQ20
        obtain ⟨rfl, Nq20, eh20⟩ := hQ20
        have N20 := Fr.app N19 Nq20
        refine own_st st20 ?_
        have e20 : T20.heap = h0 := eh020.trans eh20
        show own_Gl _ _ _ _ _ _ _ (T20.setTop (mkF m 82 #[.val (.int p1), .val (.int p2), .val (.int ((p1 &&& (2147483647 : Int32)) % (3 : Int32))), .val (.ref f), .val (.ref t), .val (.ref t), .val (.int (0 : Int32)), .unset, .unset] [(.ref f)]))
        obtain ⟨cq21, kq21, q21a, q21b, q21c⟩ := isOf hZ e20 E_f
        obtain ⟨_, _, ⟨T21, L21, k21, n21⟩, -, X21, ⟨Lc21, hQ21, l21, y21, z21⟩, st21⟩ := X20.virtualBack hx (y := (⟨"smalti/space/Condition$Truth", "not", "()Lsmalti/space/Condition$Truth;"⟩ : MethodName)) (z := (⟨"smalti/space/Condition$Truth", "not", "()Lsmalti/space/Condition$Truth;"⟩ : MethodName)) hown (mvT hZ (hw _ (List.mem_of_getElem? (i := 6) rfl))) (mvT hZ (hw _ (List.mem_of_getElem? (i := 7) rfl))) (notFace_of_selects (args := #[]) (mvT hZ (hw _ (List.mem_of_getElem? (i := 9) rfl)))) (mvT hZ (hw _ (List.mem_of_getElem? (i := 9) rfl))) (mvT hZ (hw _ (List.mem_of_getElem? (i := 8) rfl))) (by decide) (backOf (W := 0) (own_not_f l Z a0 hw [] t f u h0 n0 Z0 S_TRUE S_FALSE S_UNKNOWN ne_t_f ne_t_u ne_f_u) hZ (hw _ (List.mem_of_getElem? (i := 10) rfl)) (hw _ (List.mem_of_getElem? (i := 2) rfl)) (by decide) (by decide)) q21a q21c (g := (mkF m 82 #[.val (.int p1), .val (.int p2), .val (.int ((p1 &&& (2147483647 : Int32)) % (3 : Int32))), .val (.ref f), .val (.ref t), .val (.ref t), .val (.int (0 : Int32)), .unset, .unset] [(.ref f)])) rfl (by rw [hml]; rfl) (Steps.refl _) (argsL := []) (rest := []) (lenOf own_pd577329010 rfl) rfl (by show 2 * 0 + _ ≤ _; exact Nat.le_of_eq rfl) (hb hby at_82) (fun _ _ => ⟨rfl, e20, (by decide : 0 + 0 ≤ room_1.cells), (by decide : 0 + 0 ≤ room_1.slots)⟩)
        dsimp only [Pt.U, Pt.locs, Pt.cells, Pt.slots] at X21 l21 y21 z21 st21 hQ21
        subst l21 y21 z21
        obtain ⟨hh21, eh021⟩ : ∃ z, T21.heap = z := ⟨_, rfl⟩
        rw [eh021] at hQ21
        obtain ⟨rfl, Nq21, eh21⟩ := hQ21
        have N21 := Fr.app N20 Nq21
        refine own_tr st21 ?_
        have e21 : T21.heap = h0 := eh021.trans eh21
        show own_Gl _ _ _ _ _ _ _ (T21.setTop (mkF m 85 #[.val (.int p1), .val (.int p2), .val (.int ((p1 &&& (2147483647 : Int32)) % (3 : Int32))), .val (.ref f), .val (.ref t), .val (.ref t), .val (.int (0 : Int32)), .unset, .unset] [(.ref t)]))
        refine own_st (fun _ k => XS.astore X21.here hx rfl (hb hby at_85) rfl rfl (l' := #[.val (.int p1), .val (.int p2), .val (.int ((p1 &&& (2147483647 : Int32)) % (3 : Int32))), .val (.ref f), .val (.ref t), .val (.ref t), .val (.int (0 : Int32)), .val (.ref t), .unset]) rfl k) ?_
        show own_Gl _ _ _ _ _ _ _ (T21.setTop (mkF m 87 #[.val (.int p1), .val (.int p2), .val (.int ((p1 &&& (2147483647 : Int32)) % (3 : Int32))), .val (.ref f), .val (.ref t), .val (.ref t), .val (.int (0 : Int32)), .val (.ref t), .unset] []))
        refine own_st (fun _ k => XS.iload X21.here hx rfl (hb hby at_87) rfl k) ?_
        show own_Gl _ _ _ _ _ _ _ (T21.setTop (mkF m 89 #[.val (.int p1), .val (.int p2), .val (.int ((p1 &&& (2147483647 : Int32)) % (3 : Int32))), .val (.ref f), .val (.ref t), .val (.ref t), .val (.int (0 : Int32)), .val (.ref t), .unset] [(.int (0 : Int32))]))
        have hd22 : (0 : Int32) = (0 : Int32) := (by decide)
        refine own_st (fun _ k => XS.ifNo X21.here hx rfl (hb hby at_89) rfl ((if0 _ _).trans (teq hd22).2) k) ?_
        show own_Gl _ _ _ _ _ _ _ (T21.setTop (mkF m 92 #[.val (.int p1), .val (.int p2), .val (.int ((p1 &&& (2147483647 : Int32)) % (3 : Int32))), .val (.ref f), .val (.ref t), .val (.ref t), .val (.int (0 : Int32)), .val (.ref t), .unset] []))
        refine own_st (fun _ k => XS.iconst X21.here hx rfl (hb hby at_92) k) ?_
        show own_Gl _ _ _ _ _ _ _ (T21.setTop (mkF m 93 #[.val (.int p1), .val (.int p2), .val (.int ((p1 &&& (2147483647 : Int32)) % (3 : Int32))), .val (.ref f), .val (.ref t), .val (.ref t), .val (.int (0 : Int32)), .val (.ref t), .unset] [(.int (1 : Int32))]))
        refine own_st (fun _ k => XS.goto X21.here hx rfl (pc0 := 93) (pc' := 97) rfl (hb hby at_93) (by decide) (by decide) k) ?_
        show own_Gl _ _ _ _ _ _ _ (T21.setTop (mkF m 97 #[.val (.int p1), .val (.int p2), .val (.int ((p1 &&& (2147483647 : Int32)) % (3 : Int32))), .val (.ref f), .val (.ref t), .val (.ref t), .val (.int (0 : Int32)), .val (.ref t), .unset] [(.int (1 : Int32))]))
        obtain ⟨_, _, ⟨T23, L23, k23, n23⟩, -, X23, ⟨Lc23, hQ23, l23, y23, z23⟩, st23⟩ := Jvm.LawKit.callS X21 hx (y := (⟨"smalti/space/Condition$Truth", "of", "(Z)Lsmalti/space/Condition$Truth;"⟩ : MethodName)) hown (mvT hZ (hw _ (List.mem_of_getElem? (i := 13) rfl))) (mvT hZ (hw _ (List.mem_of_getElem? (i := 14) rfl))) (mvT hZ (hw _ (List.mem_of_getElem? (i := 2) rfl))) (mvT hZ (hw _ (List.mem_of_getElem? (i := 15) rfl))) (by decide) (backOf (W := 0) (own_of_1 l Z a0 hw [] t f u h0 n0 Z0 S_TRUE S_FALSE S_UNKNOWN) hZ (hw _ (List.mem_of_getElem? (i := 15) rfl)) (hw _ (List.mem_of_getElem? (i := 2) rfl)) (by decide) (by decide)) (g := (mkF m 97 #[.val (.int p1), .val (.int p2), .val (.int ((p1 &&& (2147483647 : Int32)) % (3 : Int32))), .val (.ref f), .val (.ref t), .val (.ref t), .val (.int (0 : Int32)), .val (.ref t), .unset] [(.int (1 : Int32))])) rfl (by rw [hml]; rfl) (argsL := [(.int (1 : Int32))]) (rest := []) (lenOf own_pd211156806 rfl) rfl (by show 2 * 0 + _ ≤ _; exact Nat.le_of_eq rfl) (hb hby at_97) (fun _ _ => ⟨rfl, e21, (by decide : 0 + 0 ≤ room_1.cells), (by decide : 0 + 0 ≤ room_1.slots)⟩)
        dsimp only [Pt.U, Pt.locs, Pt.cells, Pt.slots] at X23 l23 y23 z23 st23 hQ23
        subst l23 y23 z23
        obtain ⟨hh23, eh023⟩ : ∃ z, T23.heap = z := ⟨_, rfl⟩
        rw [eh023] at hQ23
        obtain ⟨rfl, Nq23, eh23⟩ := hQ23
        have N23 := Fr.app N21 Nq23
        refine own_st st23 ?_
        have e23 : T23.heap = h0 := eh023.trans eh23
        show own_Gl _ _ _ _ _ _ _ (T23.setTop (mkF m 100 #[.val (.int p1), .val (.int p2), .val (.int ((p1 &&& (2147483647 : Int32)) % (3 : Int32))), .val (.ref f), .val (.ref t), .val (.ref t), .val (.int (0 : Int32)), .val (.ref t), .unset] [(.ref t)]))
        refine own_st (fun _ k => XS.astore X23.here hx rfl (hb hby at_100) rfl rfl (l' := #[.val (.int p1), .val (.int p2), .val (.int ((p1 &&& (2147483647 : Int32)) % (3 : Int32))), .val (.ref f), .val (.ref t), .val (.ref t), .val (.int (0 : Int32)), .val (.ref t), .val (.ref t)]) rfl k) ?_
        show own_Gl _ _ _ _ _ _ _ (T23.setTop (mkF m 102 #[.val (.int p1), .val (.int p2), .val (.int ((p1 &&& (2147483647 : Int32)) % (3 : Int32))), .val (.ref f), .val (.ref t), .val (.ref t), .val (.int (0 : Int32)), .val (.ref t), .val (.ref t)] []))
        refine own_st (fun _ k => XS.aload X23.here hx rfl (hb hby at_102) rfl rfl k) ?_
        show own_Gl _ _ _ _ _ _ _ (T23.setTop (mkF m 104 #[.val (.int p1), .val (.int p2), .val (.int ((p1 &&& (2147483647 : Int32)) % (3 : Int32))), .val (.ref f), .val (.ref t), .val (.ref t), .val (.int (0 : Int32)), .val (.ref t), .val (.ref t)] [(.ref t)]))
        refine own_st (fun _ k => XS.aload X23.here hx rfl (hb hby at_104) rfl rfl k) ?_
        show own_Gl _ _ _ _ _ _ _ (T23.setTop (mkF m 106 #[.val (.int p1), .val (.int p2), .val (.int ((p1 &&& (2147483647 : Int32)) % (3 : Int32))), .val (.ref f), .val (.ref t), .val (.ref t), .val (.int (0 : Int32)), .val (.ref t), .val (.ref t)] [(.ref t), (.ref t)]))
        refine own_st (fun _ k => Jvm.RoadKit.acmp (g := (mkF m 106 #[.val (.int p1), .val (.int p2), .val (.int ((p1 &&& (2147483647 : Int32)) % (3 : Int32))), .val (.ref f), .val (.ref t), .val (.ref t), .val (.int (0 : Int32)), .val (.ref t), .val (.ref t)] [(.ref t), (.ref t)])) X23 hx rfl rfl rfl (pc0 := 106) (pc' := 109) (same := true) rfl (hb hby at_106) rfl (decide_eq_true rfl) (by decide) (by decide) k) ?_
        show own_Gl _ _ _ _ _ _ _ (T23.setTop (mkF m 109 #[.val (.int p1), .val (.int p2), .val (.int ((p1 &&& (2147483647 : Int32)) % (3 : Int32))), .val (.ref f), .val (.ref t), .val (.ref t), .val (.int (0 : Int32)), .val (.ref t), .val (.ref t)] []))
        refine own_st (fun _ k => XS.aload X23.here hx rfl (hb hby at_109) rfl rfl k) ?_
        show own_Gl _ _ _ _ _ _ _ (T23.setTop (mkF m 111 #[.val (.int p1), .val (.int p2), .val (.int ((p1 &&& (2147483647 : Int32)) % (3 : Int32))), .val (.ref f), .val (.ref t), .val (.ref t), .val (.int (0 : Int32)), .val (.ref t), .val (.ref t)] [(.ref t)]))
        obtain ⟨cq24, kq24, q24a, q24b, q24c⟩ := isOf hZ e23 E_t
        obtain ⟨_, _, ⟨T24, L24, k24, n24⟩, -, X24, ⟨Lc24, hQ24, l24, y24, z24⟩, st24⟩ := X23.virtualBack hx (y := (⟨"smalti/space/Condition$Truth", "not", "()Lsmalti/space/Condition$Truth;"⟩ : MethodName)) (z := (⟨"smalti/space/Condition$Truth", "not", "()Lsmalti/space/Condition$Truth;"⟩ : MethodName)) hown (mvT hZ (hw _ (List.mem_of_getElem? (i := 6) rfl))) (mvT hZ (hw _ (List.mem_of_getElem? (i := 7) rfl))) (notFace_of_selects (args := #[]) (mvT hZ (hw _ (List.mem_of_getElem? (i := 9) rfl)))) (mvT hZ (hw _ (List.mem_of_getElem? (i := 9) rfl))) (mvT hZ (hw _ (List.mem_of_getElem? (i := 8) rfl))) (by decide) (backOf (W := 0) (own_not_t l Z a0 hw [] t f u h0 n0 Z0 S_TRUE S_FALSE S_UNKNOWN ne_t_f ne_t_u ne_f_u) hZ (hw _ (List.mem_of_getElem? (i := 10) rfl)) (hw _ (List.mem_of_getElem? (i := 2) rfl)) (by decide) (by decide)) q24a q24c (g := (mkF m 111 #[.val (.int p1), .val (.int p2), .val (.int ((p1 &&& (2147483647 : Int32)) % (3 : Int32))), .val (.ref f), .val (.ref t), .val (.ref t), .val (.int (0 : Int32)), .val (.ref t), .val (.ref t)] [(.ref t)])) rfl (by rw [hml]; rfl) (Steps.refl _) (argsL := []) (rest := []) (lenOf own_pd577329010 rfl) rfl (by show 2 * 0 + _ ≤ _; exact Nat.le_of_eq rfl) (hb hby at_111) (fun _ _ => ⟨rfl, e23, (by decide : 0 + 0 ≤ room_1.cells), (by decide : 0 + 0 ≤ room_1.slots)⟩)
        dsimp only [Pt.U, Pt.locs, Pt.cells, Pt.slots] at X24 l24 y24 z24 st24 hQ24
        subst l24 y24 z24
        obtain ⟨hh24, eh024⟩ : ∃ z, T24.heap = z := ⟨_, rfl⟩
        rw [eh024] at hQ24
        obtain ⟨rfl, Nq24, eh24⟩ := hQ24
        have N24 := Fr.app N23 Nq24
        refine own_tr st24 ?_
        have e24 : T24.heap = h0 := eh024.trans eh24
        show own_Gl _ _ _ _ _ _ _ (T24.setTop (mkF m 114 #[.val (.int p1), .val (.int p2), .val (.int ((p1 &&& (2147483647 : Int32)) % (3 : Int32))), .val (.ref f), .val (.ref t), .val (.ref t), .val (.int (0 : Int32)), .val (.ref t), .val (.ref t)] [(.ref f)]))
        refine own_st (fun _ k => XS.aloadN X24.here hx rfl (hb hby at_114) rfl rfl k) ?_
        show own_Gl _ _ _ _ _ _ _ (T24.setTop (mkF m 115 #[.val (.int p1), .val (.int p2), .val (.int ((p1 &&& (2147483647 : Int32)) % (3 : Int32))), .val (.ref f), .val (.ref t), .val (.ref t), .val (.int (0 : Int32)), .val (.ref t), .val (.ref t)] [(.ref f), (.ref f)]))
        refine own_st (fun _ k => Jvm.RoadKit.acmp (g := (mkF m 115 #[.val (.int p1), .val (.int p2), .val (.int ((p1 &&& (2147483647 : Int32)) % (3 : Int32))), .val (.ref f), .val (.ref t), .val (.ref t), .val (.int (0 : Int32)), .val (.ref t), .val (.ref t)] [(.ref f), (.ref f)])) X24 hx rfl rfl rfl (pc0 := 115) (pc' := 118) (same := true) rfl (hb hby at_115) rfl (decide_eq_true rfl) (by decide) (by decide) k) ?_
        show own_Gl _ _ _ _ _ _ _ (T24.setTop (mkF m 118 #[.val (.int p1), .val (.int p2), .val (.int ((p1 &&& (2147483647 : Int32)) % (3 : Int32))), .val (.ref f), .val (.ref t), .val (.ref t), .val (.int (0 : Int32)), .val (.ref t), .val (.ref t)] []))
        refine own_st (fun _ k => XS.aload X24.here hx rfl (hb hby at_118) rfl rfl k) ?_
        show own_Gl _ _ _ _ _ _ _ (T24.setTop (mkF m 120 #[.val (.int p1), .val (.int p2), .val (.int ((p1 &&& (2147483647 : Int32)) % (3 : Int32))), .val (.ref f), .val (.ref t), .val (.ref t), .val (.int (0 : Int32)), .val (.ref t), .val (.ref t)] [(.ref t)]))
        refine own_st (fun _ k => XS.aload X24.here hx rfl (hb hby at_120) rfl rfl k) ?_
        show own_Gl _ _ _ _ _ _ _ (T24.setTop (mkF m 122 #[.val (.int p1), .val (.int p2), .val (.int ((p1 &&& (2147483647 : Int32)) % (3 : Int32))), .val (.ref f), .val (.ref t), .val (.ref t), .val (.int (0 : Int32)), .val (.ref t), .val (.ref t)] [(.ref t), (.ref t)]))
        refine own_st (fun _ k => Jvm.RoadKit.acmp (g := (mkF m 122 #[.val (.int p1), .val (.int p2), .val (.int ((p1 &&& (2147483647 : Int32)) % (3 : Int32))), .val (.ref f), .val (.ref t), .val (.ref t), .val (.int (0 : Int32)), .val (.ref t), .val (.ref t)] [(.ref t), (.ref t)])) X24 hx rfl rfl rfl (pc0 := 122) (pc' := 125) (same := true) rfl (hb hby at_122) rfl (decide_eq_true rfl) (by decide) (by decide) k) ?_
        show own_Gl _ _ _ _ _ _ _ (T24.setTop (mkF m 125 #[.val (.int p1), .val (.int p2), .val (.int ((p1 &&& (2147483647 : Int32)) % (3 : Int32))), .val (.ref f), .val (.ref t), .val (.ref t), .val (.int (0 : Int32)), .val (.ref t), .val (.ref t)] []))
        refine own_st (fun _ k => XS.iconst X24.here hx rfl (hb hby at_125) k) ?_
        show own_Gl _ _ _ _ _ _ _ (T24.setTop (mkF m 126 #[.val (.int p1), .val (.int p2), .val (.int ((p1 &&& (2147483647 : Int32)) % (3 : Int32))), .val (.ref f), .val (.ref t), .val (.ref t), .val (.int (0 : Int32)), .val (.ref t), .val (.ref t)] [(.int (1 : Int32))]))
        refine own_st (fun _ k => XS.goto X24.here hx rfl (pc0 := 126) (pc' := 130) rfl (hb hby at_126) (by decide) (by decide) k) ?_
        show own_Gl _ _ _ _ _ _ _ (T24.setTop (mkF m 130 #[.val (.int p1), .val (.int p2), .val (.int ((p1 &&& (2147483647 : Int32)) % (3 : Int32))), .val (.ref f), .val (.ref t), .val (.ref t), .val (.int (0 : Int32)), .val (.ref t), .val (.ref t)] [(.int (1 : Int32))]))
        exact own_retN X24 hx hlk (t := .boolean) hret (by simp) (hb hby at_130) e24 ⟨rfl, N24⟩ (by decide) (by decide)
      · refine own_st (fun _ k => XS.ifNo X19.here hx rfl (hb hby at_67) rfl ((if0 _ _).trans (feq hc67).1) k) ?_
        show own_Gl _ _ _ _ _ _ _ (T19.setTop (mkF m 70 #[.val (.int p1), .val (.int p2), .val (.int ((p1 &&& (2147483647 : Int32)) % (3 : Int32))), .val (.ref f), .val (.ref t), .val (.ref t), .unset, .unset, .unset] []))
        refine own_st (fun _ k => XS.iconst X19.here hx rfl (hb hby at_70) k) ?_
        show own_Gl _ _ _ _ _ _ _ (T19.setTop (mkF m 71 #[.val (.int p1), .val (.int p2), .val (.int ((p1 &&& (2147483647 : Int32)) % (3 : Int32))), .val (.ref f), .val (.ref t), .val (.ref t), .unset, .unset, .unset] [(.int (1 : Int32))]))
        refine own_st (fun _ k => XS.goto X19.here hx rfl (pc0 := 71) (pc' := 75) rfl (hb hby at_71) (by decide) (by decide) k) ?_
        show own_Gl _ _ _ _ _ _ _ (T19.setTop (mkF m 75 #[.val (.int p1), .val (.int p2), .val (.int ((p1 &&& (2147483647 : Int32)) % (3 : Int32))), .val (.ref f), .val (.ref t), .val (.ref t), .unset, .unset, .unset] [(.int (1 : Int32))]))
        refine own_st (fun _ k => XS.istore X19.here hx rfl (hb hby at_75) rfl (l' := #[.val (.int p1), .val (.int p2), .val (.int ((p1 &&& (2147483647 : Int32)) % (3 : Int32))), .val (.ref f), .val (.ref t), .val (.ref t), .val (.int (1 : Int32)), .unset, .unset]) rfl k) ?_
        show own_Gl _ _ _ _ _ _ _ (T19.setTop (mkF m 77 #[.val (.int p1), .val (.int p2), .val (.int ((p1 &&& (2147483647 : Int32)) % (3 : Int32))), .val (.ref f), .val (.ref t), .val (.ref t), .val (.int (1 : Int32)), .unset, .unset] []))
        refine own_st (fun _ k => XS.iload X19.here hx rfl (hb hby at_77) rfl k) ?_
        show own_Gl _ _ _ _ _ _ _ (T19.setTop (mkF m 79 #[.val (.int p1), .val (.int p2), .val (.int ((p1 &&& (2147483647 : Int32)) % (3 : Int32))), .val (.ref f), .val (.ref t), .val (.ref t), .val (.int (1 : Int32)), .unset, .unset] [(.int (1 : Int32))]))
        obtain ⟨_, _, ⟨T25, L25, k25, n25⟩, -, X25, ⟨Lc25, hQ25, l25, y25, z25⟩, st25⟩ := Jvm.LawKit.callS X19 hx (y := (⟨"smalti/space/Condition$Truth", "of", "(Z)Lsmalti/space/Condition$Truth;"⟩ : MethodName)) hown (mvT hZ (hw _ (List.mem_of_getElem? (i := 13) rfl))) (mvT hZ (hw _ (List.mem_of_getElem? (i := 14) rfl))) (mvT hZ (hw _ (List.mem_of_getElem? (i := 2) rfl))) (mvT hZ (hw _ (List.mem_of_getElem? (i := 15) rfl))) (by decide) (backOf (W := 0) (own_of_1 l Z a0 hw [] t f u h0 n0 Z0 S_TRUE S_FALSE S_UNKNOWN) hZ (hw _ (List.mem_of_getElem? (i := 15) rfl)) (hw _ (List.mem_of_getElem? (i := 2) rfl)) (by decide) (by decide)) (g := (mkF m 79 #[.val (.int p1), .val (.int p2), .val (.int ((p1 &&& (2147483647 : Int32)) % (3 : Int32))), .val (.ref f), .val (.ref t), .val (.ref t), .val (.int (1 : Int32)), .unset, .unset] [(.int (1 : Int32))])) rfl (by rw [hml]; rfl) (argsL := [(.int (1 : Int32))]) (rest := []) (lenOf own_pd211156806 rfl) rfl (by show 2 * 0 + _ ≤ _; exact Nat.le_of_eq rfl) (hb hby at_79) (fun _ _ => ⟨rfl, e19, (by decide : 0 + 0 ≤ room_1.cells), (by decide : 0 + 0 ≤ room_1.slots)⟩)
        dsimp only [Pt.U, Pt.locs, Pt.cells, Pt.slots] at X25 l25 y25 z25 st25 hQ25
        subst l25 y25 z25
        obtain ⟨hh25, eh025⟩ : ∃ z, T25.heap = z := ⟨_, rfl⟩
        rw [eh025] at hQ25
        obtain ⟨rfl, Nq25, eh25⟩ := hQ25
        have N25 := Fr.app N19 Nq25
        refine own_st st25 ?_
        have e25 : T25.heap = h0 := eh025.trans eh25
        show own_Gl _ _ _ _ _ _ _ (T25.setTop (mkF m 82 #[.val (.int p1), .val (.int p2), .val (.int ((p1 &&& (2147483647 : Int32)) % (3 : Int32))), .val (.ref f), .val (.ref t), .val (.ref t), .val (.int (1 : Int32)), .unset, .unset] [(.ref t)]))
        obtain ⟨cq26, kq26, q26a, q26b, q26c⟩ := isOf hZ e25 E_t
        obtain ⟨_, _, ⟨T26, L26, k26, n26⟩, -, X26, ⟨Lc26, hQ26, l26, y26, z26⟩, st26⟩ := X25.virtualBack hx (y := (⟨"smalti/space/Condition$Truth", "not", "()Lsmalti/space/Condition$Truth;"⟩ : MethodName)) (z := (⟨"smalti/space/Condition$Truth", "not", "()Lsmalti/space/Condition$Truth;"⟩ : MethodName)) hown (mvT hZ (hw _ (List.mem_of_getElem? (i := 6) rfl))) (mvT hZ (hw _ (List.mem_of_getElem? (i := 7) rfl))) (notFace_of_selects (args := #[]) (mvT hZ (hw _ (List.mem_of_getElem? (i := 9) rfl)))) (mvT hZ (hw _ (List.mem_of_getElem? (i := 9) rfl))) (mvT hZ (hw _ (List.mem_of_getElem? (i := 8) rfl))) (by decide) (backOf (W := 0) (own_not_t l Z a0 hw [] t f u h0 n0 Z0 S_TRUE S_FALSE S_UNKNOWN ne_t_f ne_t_u ne_f_u) hZ (hw _ (List.mem_of_getElem? (i := 10) rfl)) (hw _ (List.mem_of_getElem? (i := 2) rfl)) (by decide) (by decide)) q26a q26c (g := (mkF m 82 #[.val (.int p1), .val (.int p2), .val (.int ((p1 &&& (2147483647 : Int32)) % (3 : Int32))), .val (.ref f), .val (.ref t), .val (.ref t), .val (.int (1 : Int32)), .unset, .unset] [(.ref t)])) rfl (by rw [hml]; rfl) (Steps.refl _) (argsL := []) (rest := []) (lenOf own_pd577329010 rfl) rfl (by show 2 * 0 + _ ≤ _; exact Nat.le_of_eq rfl) (hb hby at_82) (fun _ _ => ⟨rfl, e25, (by decide : 0 + 0 ≤ room_1.cells), (by decide : 0 + 0 ≤ room_1.slots)⟩)
        dsimp only [Pt.U, Pt.locs, Pt.cells, Pt.slots] at X26 l26 y26 z26 st26 hQ26
        subst l26 y26 z26
        obtain ⟨hh26, eh026⟩ : ∃ z, T26.heap = z := ⟨_, rfl⟩
        rw [eh026] at hQ26
        obtain ⟨rfl, Nq26, eh26⟩ := hQ26
        have N26 := Fr.app N25 Nq26
        refine own_tr st26 ?_
        have e26 : T26.heap = h0 := eh026.trans eh26
        show own_Gl _ _ _ _ _ _ _ (T26.setTop (mkF m 85 #[.val (.int p1), .val (.int p2), .val (.int ((p1 &&& (2147483647 : Int32)) % (3 : Int32))), .val (.ref f), .val (.ref t), .val (.ref t), .val (.int (1 : Int32)), .unset, .unset] [(.ref f)]))
        refine own_st (fun _ k => XS.astore X26.here hx rfl (hb hby at_85) rfl rfl (l' := #[.val (.int p1), .val (.int p2), .val (.int ((p1 &&& (2147483647 : Int32)) % (3 : Int32))), .val (.ref f), .val (.ref t), .val (.ref t), .val (.int (1 : Int32)), .val (.ref f), .unset]) rfl k) ?_
        show own_Gl _ _ _ _ _ _ _ (T26.setTop (mkF m 87 #[.val (.int p1), .val (.int p2), .val (.int ((p1 &&& (2147483647 : Int32)) % (3 : Int32))), .val (.ref f), .val (.ref t), .val (.ref t), .val (.int (1 : Int32)), .val (.ref f), .unset] []))
        refine own_st (fun _ k => XS.iload X26.here hx rfl (hb hby at_87) rfl k) ?_
        show own_Gl _ _ _ _ _ _ _ (T26.setTop (mkF m 89 #[.val (.int p1), .val (.int p2), .val (.int ((p1 &&& (2147483647 : Int32)) % (3 : Int32))), .val (.ref f), .val (.ref t), .val (.ref t), .val (.int (1 : Int32)), .val (.ref f), .unset] [(.int (1 : Int32))]))
        have hd27 : ¬ ((1 : Int32) = (0 : Int32)) := (by decide)
        refine own_st (fun _ k => XS.ifYes X26.here hx rfl (pc0 := 89) (pc' := 96) rfl (hb hby at_89) rfl ((if0 _ _).trans (feq hd27).2) (by decide) (by decide) k) ?_
        show own_Gl _ _ _ _ _ _ _ (T26.setTop (mkF m 96 #[.val (.int p1), .val (.int p2), .val (.int ((p1 &&& (2147483647 : Int32)) % (3 : Int32))), .val (.ref f), .val (.ref t), .val (.ref t), .val (.int (1 : Int32)), .val (.ref f), .unset] []))
        refine own_st (fun _ k => XS.iconst X26.here hx rfl (hb hby at_96) k) ?_
        show own_Gl _ _ _ _ _ _ _ (T26.setTop (mkF m 97 #[.val (.int p1), .val (.int p2), .val (.int ((p1 &&& (2147483647 : Int32)) % (3 : Int32))), .val (.ref f), .val (.ref t), .val (.ref t), .val (.int (1 : Int32)), .val (.ref f), .unset] [(.int (0 : Int32))]))
        obtain ⟨_, _, ⟨T28, L28, k28, n28⟩, -, X28, ⟨Lc28, hQ28, l28, y28, z28⟩, st28⟩ := Jvm.LawKit.callS X26 hx (y := (⟨"smalti/space/Condition$Truth", "of", "(Z)Lsmalti/space/Condition$Truth;"⟩ : MethodName)) hown (mvT hZ (hw _ (List.mem_of_getElem? (i := 13) rfl))) (mvT hZ (hw _ (List.mem_of_getElem? (i := 14) rfl))) (mvT hZ (hw _ (List.mem_of_getElem? (i := 2) rfl))) (mvT hZ (hw _ (List.mem_of_getElem? (i := 15) rfl))) (by decide) (backOf (W := 0) (own_of_0 l Z a0 hw [] t f u h0 n0 Z0 S_TRUE S_FALSE S_UNKNOWN) hZ (hw _ (List.mem_of_getElem? (i := 15) rfl)) (hw _ (List.mem_of_getElem? (i := 2) rfl)) (by decide) (by decide)) (g := (mkF m 97 #[.val (.int p1), .val (.int p2), .val (.int ((p1 &&& (2147483647 : Int32)) % (3 : Int32))), .val (.ref f), .val (.ref t), .val (.ref t), .val (.int (1 : Int32)), .val (.ref f), .unset] [(.int (0 : Int32))])) rfl (by rw [hml]; rfl) (argsL := [(.int (0 : Int32))]) (rest := []) (lenOf own_pd211156806 rfl) rfl (by show 2 * 0 + _ ≤ _; exact Nat.le_of_eq rfl) (hb hby at_97) (fun _ _ => ⟨rfl, e26, (by decide : 0 + 0 ≤ room_1.cells), (by decide : 0 + 0 ≤ room_1.slots)⟩)
        dsimp only [Pt.U, Pt.locs, Pt.cells, Pt.slots] at X28 l28 y28 z28 st28 hQ28
        subst l28 y28 z28
        obtain ⟨hh28, eh028⟩ : ∃ z, T28.heap = z := ⟨_, rfl⟩
        rw [eh028] at hQ28
        obtain ⟨rfl, Nq28, eh28⟩ := hQ28
        have N28 := Fr.app N26 Nq28
        refine own_st st28 ?_
        have e28 : T28.heap = h0 := eh028.trans eh28
        show own_Gl _ _ _ _ _ _ _ (T28.setTop (mkF m 100 #[.val (.int p1), .val (.int p2), .val (.int ((p1 &&& (2147483647 : Int32)) % (3 : Int32))), .val (.ref f), .val (.ref t), .val (.ref t), .val (.int (1 : Int32)), .val (.ref f), .unset] [(.ref f)]))
        refine own_st (fun _ k => XS.astore X28.here hx rfl (hb hby at_100) rfl rfl (l' := #[.val (.int p1), .val (.int p2), .val (.int ((p1 &&& (2147483647 : Int32)) % (3 : Int32))), .val (.ref f), .val (.ref t), .val (.ref t), .val (.int (1 : Int32)), .val (.ref f), .val (.ref f)]) rfl k) ?_
        show own_Gl _ _ _ _ _ _ _ (T28.setTop (mkF m 102 #[.val (.int p1), .val (.int p2), .val (.int ((p1 &&& (2147483647 : Int32)) % (3 : Int32))), .val (.ref f), .val (.ref t), .val (.ref t), .val (.int (1 : Int32)), .val (.ref f), .val (.ref f)] []))
        refine own_st (fun _ k => XS.aload X28.here hx rfl (hb hby at_102) rfl rfl k) ?_
        show own_Gl _ _ _ _ _ _ _ (T28.setTop (mkF m 104 #[.val (.int p1), .val (.int p2), .val (.int ((p1 &&& (2147483647 : Int32)) % (3 : Int32))), .val (.ref f), .val (.ref t), .val (.ref t), .val (.int (1 : Int32)), .val (.ref f), .val (.ref f)] [(.ref t)]))
        refine own_st (fun _ k => XS.aload X28.here hx rfl (hb hby at_104) rfl rfl k) ?_
        show own_Gl _ _ _ _ _ _ _ (T28.setTop (mkF m 106 #[.val (.int p1), .val (.int p2), .val (.int ((p1 &&& (2147483647 : Int32)) % (3 : Int32))), .val (.ref f), .val (.ref t), .val (.ref t), .val (.int (1 : Int32)), .val (.ref f), .val (.ref f)] [(.ref t), (.ref t)]))
        refine own_st (fun _ k => Jvm.RoadKit.acmp (g := (mkF m 106 #[.val (.int p1), .val (.int p2), .val (.int ((p1 &&& (2147483647 : Int32)) % (3 : Int32))), .val (.ref f), .val (.ref t), .val (.ref t), .val (.int (1 : Int32)), .val (.ref f), .val (.ref f)] [(.ref t), (.ref t)])) X28 hx rfl rfl rfl (pc0 := 106) (pc' := 109) (same := true) rfl (hb hby at_106) rfl (decide_eq_true rfl) (by decide) (by decide) k) ?_
        show own_Gl _ _ _ _ _ _ _ (T28.setTop (mkF m 109 #[.val (.int p1), .val (.int p2), .val (.int ((p1 &&& (2147483647 : Int32)) % (3 : Int32))), .val (.ref f), .val (.ref t), .val (.ref t), .val (.int (1 : Int32)), .val (.ref f), .val (.ref f)] []))
        refine own_st (fun _ k => XS.aload X28.here hx rfl (hb hby at_109) rfl rfl k) ?_
        show own_Gl _ _ _ _ _ _ _ (T28.setTop (mkF m 111 #[.val (.int p1), .val (.int p2), .val (.int ((p1 &&& (2147483647 : Int32)) % (3 : Int32))), .val (.ref f), .val (.ref t), .val (.ref t), .val (.int (1 : Int32)), .val (.ref f), .val (.ref f)] [(.ref t)]))
        obtain ⟨cq29, kq29, q29a, q29b, q29c⟩ := isOf hZ e28 E_t
        obtain ⟨_, _, ⟨T29, L29, k29, n29⟩, -, X29, ⟨Lc29, hQ29, l29, y29, z29⟩, st29⟩ := X28.virtualBack hx (y := (⟨"smalti/space/Condition$Truth", "not", "()Lsmalti/space/Condition$Truth;"⟩ : MethodName)) (z := (⟨"smalti/space/Condition$Truth", "not", "()Lsmalti/space/Condition$Truth;"⟩ : MethodName)) hown (mvT hZ (hw _ (List.mem_of_getElem? (i := 6) rfl))) (mvT hZ (hw _ (List.mem_of_getElem? (i := 7) rfl))) (notFace_of_selects (args := #[]) (mvT hZ (hw _ (List.mem_of_getElem? (i := 9) rfl)))) (mvT hZ (hw _ (List.mem_of_getElem? (i := 9) rfl))) (mvT hZ (hw _ (List.mem_of_getElem? (i := 8) rfl))) (by decide) (backOf (W := 0) (own_not_t l Z a0 hw [] t f u h0 n0 Z0 S_TRUE S_FALSE S_UNKNOWN ne_t_f ne_t_u ne_f_u) hZ (hw _ (List.mem_of_getElem? (i := 10) rfl)) (hw _ (List.mem_of_getElem? (i := 2) rfl)) (by decide) (by decide)) q29a q29c (g := (mkF m 111 #[.val (.int p1), .val (.int p2), .val (.int ((p1 &&& (2147483647 : Int32)) % (3 : Int32))), .val (.ref f), .val (.ref t), .val (.ref t), .val (.int (1 : Int32)), .val (.ref f), .val (.ref f)] [(.ref t)])) rfl (by rw [hml]; rfl) (Steps.refl _) (argsL := []) (rest := []) (lenOf own_pd577329010 rfl) rfl (by show 2 * 0 + _ ≤ _; exact Nat.le_of_eq rfl) (hb hby at_111) (fun _ _ => ⟨rfl, e28, (by decide : 0 + 0 ≤ room_1.cells), (by decide : 0 + 0 ≤ room_1.slots)⟩)
        dsimp only [Pt.U, Pt.locs, Pt.cells, Pt.slots] at X29 l29 y29 z29 st29 hQ29
        subst l29 y29 z29
        obtain ⟨hh29, eh029⟩ : ∃ z, T29.heap = z := ⟨_, rfl⟩
        rw [eh029] at hQ29
        obtain ⟨rfl, Nq29, eh29⟩ := hQ29
        have N29 := Fr.app N28 Nq29
        refine own_tr st29 ?_
        have e29 : T29.heap = h0 := eh029.trans eh29
        show own_Gl _ _ _ _ _ _ _ (T29.setTop (mkF m 114 #[.val (.int p1), .val (.int p2), .val (.int ((p1 &&& (2147483647 : Int32)) % (3 : Int32))), .val (.ref f), .val (.ref t), .val (.ref t), .val (.int (1 : Int32)), .val (.ref f), .val (.ref f)] [(.ref f)]))
        refine own_st (fun _ k => XS.aloadN X29.here hx rfl (hb hby at_114) rfl rfl k) ?_
        show own_Gl _ _ _ _ _ _ _ (T29.setTop (mkF m 115 #[.val (.int p1), .val (.int p2), .val (.int ((p1 &&& (2147483647 : Int32)) % (3 : Int32))), .val (.ref f), .val (.ref t), .val (.ref t), .val (.int (1 : Int32)), .val (.ref f), .val (.ref f)] [(.ref f), (.ref f)]))
        refine own_st (fun _ k => Jvm.RoadKit.acmp (g := (mkF m 115 #[.val (.int p1), .val (.int p2), .val (.int ((p1 &&& (2147483647 : Int32)) % (3 : Int32))), .val (.ref f), .val (.ref t), .val (.ref t), .val (.int (1 : Int32)), .val (.ref f), .val (.ref f)] [(.ref f), (.ref f)])) X29 hx rfl rfl rfl (pc0 := 115) (pc' := 118) (same := true) rfl (hb hby at_115) rfl (decide_eq_true rfl) (by decide) (by decide) k) ?_
        show own_Gl _ _ _ _ _ _ _ (T29.setTop (mkF m 118 #[.val (.int p1), .val (.int p2), .val (.int ((p1 &&& (2147483647 : Int32)) % (3 : Int32))), .val (.ref f), .val (.ref t), .val (.ref t), .val (.int (1 : Int32)), .val (.ref f), .val (.ref f)] []))
        refine own_st (fun _ k => XS.aload X29.here hx rfl (hb hby at_118) rfl rfl k) ?_
        show own_Gl _ _ _ _ _ _ _ (T29.setTop (mkF m 120 #[.val (.int p1), .val (.int p2), .val (.int ((p1 &&& (2147483647 : Int32)) % (3 : Int32))), .val (.ref f), .val (.ref t), .val (.ref t), .val (.int (1 : Int32)), .val (.ref f), .val (.ref f)] [(.ref f)]))
        refine own_st (fun _ k => XS.aload X29.here hx rfl (hb hby at_120) rfl rfl k) ?_
        show own_Gl _ _ _ _ _ _ _ (T29.setTop (mkF m 122 #[.val (.int p1), .val (.int p2), .val (.int ((p1 &&& (2147483647 : Int32)) % (3 : Int32))), .val (.ref f), .val (.ref t), .val (.ref t), .val (.int (1 : Int32)), .val (.ref f), .val (.ref f)] [(.ref f), (.ref f)]))
        refine own_st (fun _ k => Jvm.RoadKit.acmp (g := (mkF m 122 #[.val (.int p1), .val (.int p2), .val (.int ((p1 &&& (2147483647 : Int32)) % (3 : Int32))), .val (.ref f), .val (.ref t), .val (.ref t), .val (.int (1 : Int32)), .val (.ref f), .val (.ref f)] [(.ref f), (.ref f)])) X29 hx rfl rfl rfl (pc0 := 122) (pc' := 125) (same := true) rfl (hb hby at_122) rfl (decide_eq_true rfl) (by decide) (by decide) k) ?_
        show own_Gl _ _ _ _ _ _ _ (T29.setTop (mkF m 125 #[.val (.int p1), .val (.int p2), .val (.int ((p1 &&& (2147483647 : Int32)) % (3 : Int32))), .val (.ref f), .val (.ref t), .val (.ref t), .val (.int (1 : Int32)), .val (.ref f), .val (.ref f)] []))
        refine own_st (fun _ k => XS.iconst X29.here hx rfl (hb hby at_125) k) ?_
        show own_Gl _ _ _ _ _ _ _ (T29.setTop (mkF m 126 #[.val (.int p1), .val (.int p2), .val (.int ((p1 &&& (2147483647 : Int32)) % (3 : Int32))), .val (.ref f), .val (.ref t), .val (.ref t), .val (.int (1 : Int32)), .val (.ref f), .val (.ref f)] [(.int (1 : Int32))]))
        refine own_st (fun _ k => XS.goto X29.here hx rfl (pc0 := 126) (pc' := 130) rfl (hb hby at_126) (by decide) (by decide) k) ?_
        show own_Gl _ _ _ _ _ _ _ (T29.setTop (mkF m 130 #[.val (.int p1), .val (.int p2), .val (.int ((p1 &&& (2147483647 : Int32)) % (3 : Int32))), .val (.ref f), .val (.ref t), .val (.ref t), .val (.int (1 : Int32)), .val (.ref f), .val (.ref f)] [(.int (1 : Int32))]))
        exact own_retN X29 hx hlk (t := .boolean) hret (by simp) (hb hby at_130) e29 ⟨rfl, N29⟩ (by decide) (by decide)
    · refine own_st (fun _ k => XS.icmpYes X0.here hx rfl (pc0 := 19) (pc' := 28) rfl (hb hby at_19) rfl (feq hc19).2 (by decide) (by decide) k) ?_
      show own_Gl _ _ _ _ _ _ _ (s₁.setTop (mkF m 28 #[.val (.int p1), .val (.int p2), .val (.int ((p1 &&& (2147483647 : Int32)) % (3 : Int32))), .unset, .unset, .unset, .unset, .unset, .unset] []))
      obtain ⟨T30, X30, e30, st30⟩ := getS2 X0 hx hZ hown (host := "") (Or.inl (hw _ (List.mem_of_getElem? (i := 16) rfl))) Via.refl e0 S_UNKNOWN (g := (mkF m 28 #[.val (.int p1), .val (.int p2), .val (.int ((p1 &&& (2147483647 : Int32)) % (3 : Int32))), .unset, .unset, .unset, .unset, .unset, .unset] [])) rfl (hb hby at_28)
      refine own_st st30 ?_
      show own_Gl _ _ _ _ _ _ _ (T30.setTop (mkF m 31 #[.val (.int p1), .val (.int p2), .val (.int ((p1 &&& (2147483647 : Int32)) % (3 : Int32))), .unset, .unset, .unset, .unset, .unset, .unset] [(.ref u)]))
      refine own_st (fun _ k => XS.astoreN X30.here hx rfl (hb hby at_31) rfl rfl (l' := #[.val (.int p1), .val (.int p2), .val (.int ((p1 &&& (2147483647 : Int32)) % (3 : Int32))), .val (.ref u), .unset, .unset, .unset, .unset, .unset]) rfl k) ?_
      show own_Gl _ _ _ _ _ _ _ (T30.setTop (mkF m 32 #[.val (.int p1), .val (.int p2), .val (.int ((p1 &&& (2147483647 : Int32)) % (3 : Int32))), .val (.ref u), .unset, .unset, .unset, .unset, .unset] []))
      refine own_st (fun _ k => XS.iloadN X30.here hx rfl (hb hby at_32) rfl k) ?_
      show own_Gl _ _ _ _ _ _ _ (T30.setTop (mkF m 33 #[.val (.int p1), .val (.int p2), .val (.int ((p1 &&& (2147483647 : Int32)) % (3 : Int32))), .val (.ref u), .unset, .unset, .unset, .unset, .unset] [(.int ((p1 &&& (2147483647 : Int32)) % (3 : Int32)))]))
      have hd31 : ¬ (((p1 &&& (2147483647 : Int32)) % (3 : Int32)) = (0 : Int32)) := hc8
      refine own_st (fun _ k => XS.ifYes X30.here hx rfl (pc0 := 33) (pc' := 42) rfl (hb hby at_33) rfl ((if0 _ _).trans (feq hd31).2) (by decide) (by decide) k) ?_
      show own_Gl _ _ _ _ _ _ _ (T30.setTop (mkF m 42 #[.val (.int p1), .val (.int p2), .val (.int ((p1 &&& (2147483647 : Int32)) % (3 : Int32))), .val (.ref u), .unset, .unset, .unset, .unset, .unset] []))
      refine own_st (fun _ k => XS.iloadN X30.here hx rfl (hb hby at_42) rfl k) ?_
      show own_Gl _ _ _ _ _ _ _ (T30.setTop (mkF m 43 #[.val (.int p1), .val (.int p2), .val (.int ((p1 &&& (2147483647 : Int32)) % (3 : Int32))), .val (.ref u), .unset, .unset, .unset, .unset, .unset] [(.int ((p1 &&& (2147483647 : Int32)) % (3 : Int32)))]))
      refine own_st (fun _ k => XS.iconst X30.here hx rfl (hb hby at_43) k) ?_
      show own_Gl _ _ _ _ _ _ _ (T30.setTop (mkF m 44 #[.val (.int p1), .val (.int p2), .val (.int ((p1 &&& (2147483647 : Int32)) % (3 : Int32))), .val (.ref u), .unset, .unset, .unset, .unset, .unset] [(.int (1 : Int32)), (.int ((p1 &&& (2147483647 : Int32)) % (3 : Int32)))]))
      have hd32 : ¬ (((p1 &&& (2147483647 : Int32)) % (3 : Int32)) = (1 : Int32)) := hc19
      refine own_st (fun _ k => XS.icmpYes X30.here hx rfl (pc0 := 44) (pc' := 53) rfl (hb hby at_44) rfl (feq hd32).2 (by decide) (by decide) k) ?_
      show own_Gl _ _ _ _ _ _ _ (T30.setTop (mkF m 53 #[.val (.int p1), .val (.int p2), .val (.int ((p1 &&& (2147483647 : Int32)) % (3 : Int32))), .val (.ref u), .unset, .unset, .unset, .unset, .unset] []))
      obtain ⟨T33, X33, e33, st33⟩ := getS2 X30 hx hZ hown (host := "") (Or.inl (hw _ (List.mem_of_getElem? (i := 16) rfl))) Via.refl e30 S_UNKNOWN (g := (mkF m 53 #[.val (.int p1), .val (.int p2), .val (.int ((p1 &&& (2147483647 : Int32)) % (3 : Int32))), .val (.ref u), .unset, .unset, .unset, .unset, .unset] [])) rfl (hb hby at_53)
      refine own_st st33 ?_
      show own_Gl _ _ _ _ _ _ _ (T33.setTop (mkF m 56 #[.val (.int p1), .val (.int p2), .val (.int ((p1 &&& (2147483647 : Int32)) % (3 : Int32))), .val (.ref u), .unset, .unset, .unset, .unset, .unset] [(.ref u)]))
      refine own_st (fun _ k => XS.astore X33.here hx rfl (hb hby at_56) rfl rfl (l' := #[.val (.int p1), .val (.int p2), .val (.int ((p1 &&& (2147483647 : Int32)) % (3 : Int32))), .val (.ref u), .val (.ref u), .unset, .unset, .unset, .unset]) rfl k) ?_
      show own_Gl _ _ _ _ _ _ _ (T33.setTop (mkF m 58 #[.val (.int p1), .val (.int p2), .val (.int ((p1 &&& (2147483647 : Int32)) % (3 : Int32))), .val (.ref u), .val (.ref u), .unset, .unset, .unset, .unset] []))
      refine own_st (fun _ k => XS.aloadN X33.here hx rfl (hb hby at_58) rfl rfl k) ?_
      show own_Gl _ _ _ _ _ _ _ (T33.setTop (mkF m 59 #[.val (.int p1), .val (.int p2), .val (.int ((p1 &&& (2147483647 : Int32)) % (3 : Int32))), .val (.ref u), .val (.ref u), .unset, .unset, .unset, .unset] [(.ref u)]))
      obtain ⟨cq34, kq34, q34a, q34b, q34c⟩ := isOf hZ e33 E_u
      obtain ⟨_, _, ⟨T34, L34, k34, n34⟩, -, X34, ⟨Lc34, hQ34, l34, y34, z34⟩, st34⟩ := X33.virtualBack hx (y := (⟨"smalti/space/Condition$Truth", "not", "()Lsmalti/space/Condition$Truth;"⟩ : MethodName)) (z := (⟨"smalti/space/Condition$Truth", "not", "()Lsmalti/space/Condition$Truth;"⟩ : MethodName)) hown (mvT hZ (hw _ (List.mem_of_getElem? (i := 6) rfl))) (mvT hZ (hw _ (List.mem_of_getElem? (i := 7) rfl))) (notFace_of_selects (args := #[]) (mvT hZ (hw _ (List.mem_of_getElem? (i := 9) rfl)))) (mvT hZ (hw _ (List.mem_of_getElem? (i := 9) rfl))) (mvT hZ (hw _ (List.mem_of_getElem? (i := 8) rfl))) (by decide) (backOf (W := 0) (own_not_u l Z a0 hw [] t f u h0 n0 Z0 S_TRUE S_FALSE S_UNKNOWN ne_t_f ne_t_u ne_f_u) hZ (hw _ (List.mem_of_getElem? (i := 10) rfl)) (hw _ (List.mem_of_getElem? (i := 2) rfl)) (by decide) (by decide)) q34a q34c (g := (mkF m 59 #[.val (.int p1), .val (.int p2), .val (.int ((p1 &&& (2147483647 : Int32)) % (3 : Int32))), .val (.ref u), .val (.ref u), .unset, .unset, .unset, .unset] [(.ref u)])) rfl (by rw [hml]; rfl) (Steps.refl _) (argsL := []) (rest := []) (lenOf own_pd577329010 rfl) rfl (by show 2 * 0 + _ ≤ _; exact Nat.le_of_eq rfl) (hb hby at_59) (fun _ _ => ⟨rfl, e33, (by decide : 0 + 0 ≤ room_1.cells), (by decide : 0 + 0 ≤ room_1.slots)⟩)
      dsimp only [Pt.U, Pt.locs, Pt.cells, Pt.slots] at X34 l34 y34 z34 st34 hQ34
      subst l34 y34 z34
      obtain ⟨hh34, eh034⟩ : ∃ z, T34.heap = z := ⟨_, rfl⟩
      rw [eh034] at hQ34
      obtain ⟨rfl, Nq34, eh34⟩ := hQ34
      have N34 := Fr.app N0 Nq34
      refine own_tr st34 ?_
      have e34 : T34.heap = h0 := eh034.trans eh34
      show own_Gl _ _ _ _ _ _ _ (T34.setTop (mkF m 62 #[.val (.int p1), .val (.int p2), .val (.int ((p1 &&& (2147483647 : Int32)) % (3 : Int32))), .val (.ref u), .val (.ref u), .unset, .unset, .unset, .unset] [(.ref u)]))
      refine own_st (fun _ k => XS.astore X34.here hx rfl (hb hby at_62) rfl rfl (l' := #[.val (.int p1), .val (.int p2), .val (.int ((p1 &&& (2147483647 : Int32)) % (3 : Int32))), .val (.ref u), .val (.ref u), .val (.ref u), .unset, .unset, .unset]) rfl k) ?_
      show own_Gl _ _ _ _ _ _ _ (T34.setTop (mkF m 64 #[.val (.int p1), .val (.int p2), .val (.int ((p1 &&& (2147483647 : Int32)) % (3 : Int32))), .val (.ref u), .val (.ref u), .val (.ref u), .unset, .unset, .unset] []))
      refine own_st (fun _ k => XS.iloadN X34.here hx rfl (hb hby at_64) rfl k) ?_
      show own_Gl _ _ _ _ _ _ _ (T34.setTop (mkF m 65 #[.val (.int p1), .val (.int p2), .val (.int ((p1 &&& (2147483647 : Int32)) % (3 : Int32))), .val (.ref u), .val (.ref u), .val (.ref u), .unset, .unset, .unset] [(.int p2)]))
      refine own_st (fun _ k => XS.iconst X34.here hx rfl (hb hby at_65) k) ?_
      show own_Gl _ _ _ _ _ _ _ (T34.setTop (mkF m 66 #[.val (.int p1), .val (.int p2), .val (.int ((p1 &&& (2147483647 : Int32)) % (3 : Int32))), .val (.ref u), .val (.ref u), .val (.ref u), .unset, .unset, .unset] [(.int (1 : Int32)), (.int p2)]))
      refine own_st (fun _ k => XS.iand X34.here hx rfl (hb hby at_66) rfl k) ?_
      show own_Gl _ _ _ _ _ _ _ (T34.setTop (mkF m 67 #[.val (.int p1), .val (.int p2), .val (.int ((p1 &&& (2147483647 : Int32)) % (3 : Int32))), .val (.ref u), .val (.ref u), .val (.ref u), .unset, .unset, .unset] [(.int (p2 &&& (1 : Int32)))]))
      by_cases hc67 : (p2 &&& (1 : Int32)) = (0 : Int32)
      · refine own_st (fun _ k => XS.ifYes X34.here hx rfl (pc0 := 67) (pc' := 74) rfl (hb hby at_67) rfl ((if0 _ _).trans (teq hc67).1) (by decide) (by decide) k) ?_
        show own_Gl _ _ _ _ _ _ _ (T34.setTop (mkF m 74 #[.val (.int p1), .val (.int p2), .val (.int ((p1 &&& (2147483647 : Int32)) % (3 : Int32))), .val (.ref u), .val (.ref u), .val (.ref u), .unset, .unset, .unset] []))
        refine own_st (fun _ k => XS.iconst X34.here hx rfl (hb hby at_74) k) ?_
        show own_Gl _ _ _ _ _ _ _ (T34.setTop (mkF m 75 #[.val (.int p1), .val (.int p2), .val (.int ((p1 &&& (2147483647 : Int32)) % (3 : Int32))), .val (.ref u), .val (.ref u), .val (.ref u), .unset, .unset, .unset] [(.int (0 : Int32))]))
        refine own_st (fun _ k => XS.istore X34.here hx rfl (hb hby at_75) rfl (l' := #[.val (.int p1), .val (.int p2), .val (.int ((p1 &&& (2147483647 : Int32)) % (3 : Int32))), .val (.ref u), .val (.ref u), .val (.ref u), .val (.int (0 : Int32)), .unset, .unset]) rfl k) ?_
        show own_Gl _ _ _ _ _ _ _ (T34.setTop (mkF m 77 #[.val (.int p1), .val (.int p2), .val (.int ((p1 &&& (2147483647 : Int32)) % (3 : Int32))), .val (.ref u), .val (.ref u), .val (.ref u), .val (.int (0 : Int32)), .unset, .unset] []))
        refine own_st (fun _ k => XS.iload X34.here hx rfl (hb hby at_77) rfl k) ?_
        show own_Gl _ _ _ _ _ _ _ (T34.setTop (mkF m 79 #[.val (.int p1), .val (.int p2), .val (.int ((p1 &&& (2147483647 : Int32)) % (3 : Int32))), .val (.ref u), .val (.ref u), .val (.ref u), .val (.int (0 : Int32)), .unset, .unset] [(.int (0 : Int32))]))
        obtain ⟨_, _, ⟨T35, L35, k35, n35⟩, -, X35, ⟨Lc35, hQ35, l35, y35, z35⟩, st35⟩ := Jvm.LawKit.callS X34 hx (y := (⟨"smalti/space/Condition$Truth", "of", "(Z)Lsmalti/space/Condition$Truth;"⟩ : MethodName)) hown (mvT hZ (hw _ (List.mem_of_getElem? (i := 13) rfl))) (mvT hZ (hw _ (List.mem_of_getElem? (i := 14) rfl))) (mvT hZ (hw _ (List.mem_of_getElem? (i := 2) rfl))) (mvT hZ (hw _ (List.mem_of_getElem? (i := 15) rfl))) (by decide) (backOf (W := 0) (own_of_0 l Z a0 hw [] t f u h0 n0 Z0 S_TRUE S_FALSE S_UNKNOWN) hZ (hw _ (List.mem_of_getElem? (i := 15) rfl)) (hw _ (List.mem_of_getElem? (i := 2) rfl)) (by decide) (by decide)) (g := (mkF m 79 #[.val (.int p1), .val (.int p2), .val (.int ((p1 &&& (2147483647 : Int32)) % (3 : Int32))), .val (.ref u), .val (.ref u), .val (.ref u), .val (.int (0 : Int32)), .unset, .unset] [(.int (0 : Int32))])) rfl (by rw [hml]; rfl) (argsL := [(.int (0 : Int32))]) (rest := []) (lenOf own_pd211156806 rfl) rfl (by show 2 * 0 + _ ≤ _; exact Nat.le_of_eq rfl) (hb hby at_79) (fun _ _ => ⟨rfl, e34, (by decide : 0 + 0 ≤ room_1.cells), (by decide : 0 + 0 ≤ room_1.slots)⟩)
        dsimp only [Pt.U, Pt.locs, Pt.cells, Pt.slots] at X35 l35 y35 z35 st35 hQ35
        subst l35 y35 z35
        obtain ⟨hh35, eh035⟩ : ∃ z, T35.heap = z := ⟨_, rfl⟩
        rw [eh035] at hQ35
        obtain ⟨rfl, Nq35, eh35⟩ := hQ35
        have N35 := Fr.app N34 Nq35
        refine own_st st35 ?_
        have e35 : T35.heap = h0 := eh035.trans eh35
        show own_Gl _ _ _ _ _ _ _ (T35.setTop (mkF m 82 #[.val (.int p1), .val (.int p2), .val (.int ((p1 &&& (2147483647 : Int32)) % (3 : Int32))), .val (.ref u), .val (.ref u), .val (.ref u), .val (.int (0 : Int32)), .unset, .unset] [(.ref f)]))
        obtain ⟨cq36, kq36, q36a, q36b, q36c⟩ := isOf hZ e35 E_f
        obtain ⟨_, _, ⟨T36, L36, k36, n36⟩, -, X36, ⟨Lc36, hQ36, l36, y36, z36⟩, st36⟩ := X35.virtualBack hx (y := (⟨"smalti/space/Condition$Truth", "not", "()Lsmalti/space/Condition$Truth;"⟩ : MethodName)) (z := (⟨"smalti/space/Condition$Truth", "not", "()Lsmalti/space/Condition$Truth;"⟩ : MethodName)) hown (mvT hZ (hw _ (List.mem_of_getElem? (i := 6) rfl))) (mvT hZ (hw _ (List.mem_of_getElem? (i := 7) rfl))) (notFace_of_selects (args := #[]) (mvT hZ (hw _ (List.mem_of_getElem? (i := 9) rfl)))) (mvT hZ (hw _ (List.mem_of_getElem? (i := 9) rfl))) (mvT hZ (hw _ (List.mem_of_getElem? (i := 8) rfl))) (by decide) (backOf (W := 0) (own_not_f l Z a0 hw [] t f u h0 n0 Z0 S_TRUE S_FALSE S_UNKNOWN ne_t_f ne_t_u ne_f_u) hZ (hw _ (List.mem_of_getElem? (i := 10) rfl)) (hw _ (List.mem_of_getElem? (i := 2) rfl)) (by decide) (by decide)) q36a q36c (g := (mkF m 82 #[.val (.int p1), .val (.int p2), .val (.int ((p1 &&& (2147483647 : Int32)) % (3 : Int32))), .val (.ref u), .val (.ref u), .val (.ref u), .val (.int (0 : Int32)), .unset, .unset] [(.ref f)])) rfl (by rw [hml]; rfl) (Steps.refl _) (argsL := []) (rest := []) (lenOf own_pd577329010 rfl) rfl (by show 2 * 0 + _ ≤ _; exact Nat.le_of_eq rfl) (hb hby at_82) (fun _ _ => ⟨rfl, e35, (by decide : 0 + 0 ≤ room_1.cells), (by decide : 0 + 0 ≤ room_1.slots)⟩)
        dsimp only [Pt.U, Pt.locs, Pt.cells, Pt.slots] at X36 l36 y36 z36 st36 hQ36
        subst l36 y36 z36
        obtain ⟨hh36, eh036⟩ : ∃ z, T36.heap = z := ⟨_, rfl⟩
        rw [eh036] at hQ36
        obtain ⟨rfl, Nq36, eh36⟩ := hQ36
        have N36 := Fr.app N35 Nq36
        refine own_tr st36 ?_
        have e36 : T36.heap = h0 := eh036.trans eh36
        show own_Gl _ _ _ _ _ _ _ (T36.setTop (mkF m 85 #[.val (.int p1), .val (.int p2), .val (.int ((p1 &&& (2147483647 : Int32)) % (3 : Int32))), .val (.ref u), .val (.ref u), .val (.ref u), .val (.int (0 : Int32)), .unset, .unset] [(.ref t)]))
        refine own_st (fun _ k => XS.astore X36.here hx rfl (hb hby at_85) rfl rfl (l' := #[.val (.int p1), .val (.int p2), .val (.int ((p1 &&& (2147483647 : Int32)) % (3 : Int32))), .val (.ref u), .val (.ref u), .val (.ref u), .val (.int (0 : Int32)), .val (.ref t), .unset]) rfl k) ?_
        show own_Gl _ _ _ _ _ _ _ (T36.setTop (mkF m 87 #[.val (.int p1), .val (.int p2), .val (.int ((p1 &&& (2147483647 : Int32)) % (3 : Int32))), .val (.ref u), .val (.ref u), .val (.ref u), .val (.int (0 : Int32)), .val (.ref t), .unset] []))
        refine own_st (fun _ k => XS.iload X36.here hx rfl (hb hby at_87) rfl k) ?_
        show own_Gl _ _ _ _ _ _ _ (T36.setTop (mkF m 89 #[.val (.int p1), .val (.int p2), .val (.int ((p1 &&& (2147483647 : Int32)) % (3 : Int32))), .val (.ref u), .val (.ref u), .val (.ref u), .val (.int (0 : Int32)), .val (.ref t), .unset] [(.int (0 : Int32))]))
        have hd37 : (0 : Int32) = (0 : Int32) := (by decide)
        refine own_st (fun _ k => XS.ifNo X36.here hx rfl (hb hby at_89) rfl ((if0 _ _).trans (teq hd37).2) k) ?_
        show own_Gl _ _ _ _ _ _ _ (T36.setTop (mkF m 92 #[.val (.int p1), .val (.int p2), .val (.int ((p1 &&& (2147483647 : Int32)) % (3 : Int32))), .val (.ref u), .val (.ref u), .val (.ref u), .val (.int (0 : Int32)), .val (.ref t), .unset] []))
        refine own_st (fun _ k => XS.iconst X36.here hx rfl (hb hby at_92) k) ?_
        show own_Gl _ _ _ _ _ _ _ (T36.setTop (mkF m 93 #[.val (.int p1), .val (.int p2), .val (.int ((p1 &&& (2147483647 : Int32)) % (3 : Int32))), .val (.ref u), .val (.ref u), .val (.ref u), .val (.int (0 : Int32)), .val (.ref t), .unset] [(.int (1 : Int32))]))
        refine own_st (fun _ k => XS.goto X36.here hx rfl (pc0 := 93) (pc' := 97) rfl (hb hby at_93) (by decide) (by decide) k) ?_
        show own_Gl _ _ _ _ _ _ _ (T36.setTop (mkF m 97 #[.val (.int p1), .val (.int p2), .val (.int ((p1 &&& (2147483647 : Int32)) % (3 : Int32))), .val (.ref u), .val (.ref u), .val (.ref u), .val (.int (0 : Int32)), .val (.ref t), .unset] [(.int (1 : Int32))]))
        obtain ⟨_, _, ⟨T38, L38, k38, n38⟩, -, X38, ⟨Lc38, hQ38, l38, y38, z38⟩, st38⟩ := Jvm.LawKit.callS X36 hx (y := (⟨"smalti/space/Condition$Truth", "of", "(Z)Lsmalti/space/Condition$Truth;"⟩ : MethodName)) hown (mvT hZ (hw _ (List.mem_of_getElem? (i := 13) rfl))) (mvT hZ (hw _ (List.mem_of_getElem? (i := 14) rfl))) (mvT hZ (hw _ (List.mem_of_getElem? (i := 2) rfl))) (mvT hZ (hw _ (List.mem_of_getElem? (i := 15) rfl))) (by decide) (backOf (W := 0) (own_of_1 l Z a0 hw [] t f u h0 n0 Z0 S_TRUE S_FALSE S_UNKNOWN) hZ (hw _ (List.mem_of_getElem? (i := 15) rfl)) (hw _ (List.mem_of_getElem? (i := 2) rfl)) (by decide) (by decide)) (g := (mkF m 97 #[.val (.int p1), .val (.int p2), .val (.int ((p1 &&& (2147483647 : Int32)) % (3 : Int32))), .val (.ref u), .val (.ref u), .val (.ref u), .val (.int (0 : Int32)), .val (.ref t), .unset] [(.int (1 : Int32))])) rfl (by rw [hml]; rfl) (argsL := [(.int (1 : Int32))]) (rest := []) (lenOf own_pd211156806 rfl) rfl (by show 2 * 0 + _ ≤ _; exact Nat.le_of_eq rfl) (hb hby at_97) (fun _ _ => ⟨rfl, e36, (by decide : 0 + 0 ≤ room_1.cells), (by decide : 0 + 0 ≤ room_1.slots)⟩)
        dsimp only [Pt.U, Pt.locs, Pt.cells, Pt.slots] at X38 l38 y38 z38 st38 hQ38
        subst l38 y38 z38
        obtain ⟨hh38, eh038⟩ : ∃ z, T38.heap = z := ⟨_, rfl⟩
        rw [eh038] at hQ38
        obtain ⟨rfl, Nq38, eh38⟩ := hQ38
        have N38 := Fr.app N36 Nq38
        refine own_st st38 ?_
        have e38 : T38.heap = h0 := eh038.trans eh38
        show own_Gl _ _ _ _ _ _ _ (T38.setTop (mkF m 100 #[.val (.int p1), .val (.int p2), .val (.int ((p1 &&& (2147483647 : Int32)) % (3 : Int32))), .val (.ref u), .val (.ref u), .val (.ref u), .val (.int (0 : Int32)), .val (.ref t), .unset] [(.ref t)]))
        refine own_st (fun _ k => XS.astore X38.here hx rfl (hb hby at_100) rfl rfl (l' := #[.val (.int p1), .val (.int p2), .val (.int ((p1 &&& (2147483647 : Int32)) % (3 : Int32))), .val (.ref u), .val (.ref u), .val (.ref u), .val (.int (0 : Int32)), .val (.ref t), .val (.ref t)]) rfl k) ?_
        show own_Gl _ _ _ _ _ _ _ (T38.setTop (mkF m 102 #[.val (.int p1), .val (.int p2), .val (.int ((p1 &&& (2147483647 : Int32)) % (3 : Int32))), .val (.ref u), .val (.ref u), .val (.ref u), .val (.int (0 : Int32)), .val (.ref t), .val (.ref t)] []))
        refine own_st (fun _ k => XS.aload X38.here hx rfl (hb hby at_102) rfl rfl k) ?_
        show own_Gl _ _ _ _ _ _ _ (T38.setTop (mkF m 104 #[.val (.int p1), .val (.int p2), .val (.int ((p1 &&& (2147483647 : Int32)) % (3 : Int32))), .val (.ref u), .val (.ref u), .val (.ref u), .val (.int (0 : Int32)), .val (.ref t), .val (.ref t)] [(.ref u)]))
        refine own_st (fun _ k => XS.aload X38.here hx rfl (hb hby at_104) rfl rfl k) ?_
        show own_Gl _ _ _ _ _ _ _ (T38.setTop (mkF m 106 #[.val (.int p1), .val (.int p2), .val (.int ((p1 &&& (2147483647 : Int32)) % (3 : Int32))), .val (.ref u), .val (.ref u), .val (.ref u), .val (.int (0 : Int32)), .val (.ref t), .val (.ref t)] [(.ref u), (.ref u)]))
        refine own_st (fun _ k => Jvm.RoadKit.acmp (g := (mkF m 106 #[.val (.int p1), .val (.int p2), .val (.int ((p1 &&& (2147483647 : Int32)) % (3 : Int32))), .val (.ref u), .val (.ref u), .val (.ref u), .val (.int (0 : Int32)), .val (.ref t), .val (.ref t)] [(.ref u), (.ref u)])) X38 hx rfl rfl rfl (pc0 := 106) (pc' := 109) (same := true) rfl (hb hby at_106) rfl (decide_eq_true rfl) (by decide) (by decide) k) ?_
        show own_Gl _ _ _ _ _ _ _ (T38.setTop (mkF m 109 #[.val (.int p1), .val (.int p2), .val (.int ((p1 &&& (2147483647 : Int32)) % (3 : Int32))), .val (.ref u), .val (.ref u), .val (.ref u), .val (.int (0 : Int32)), .val (.ref t), .val (.ref t)] []))
        refine own_st (fun _ k => XS.aload X38.here hx rfl (hb hby at_109) rfl rfl k) ?_
        show own_Gl _ _ _ _ _ _ _ (T38.setTop (mkF m 111 #[.val (.int p1), .val (.int p2), .val (.int ((p1 &&& (2147483647 : Int32)) % (3 : Int32))), .val (.ref u), .val (.ref u), .val (.ref u), .val (.int (0 : Int32)), .val (.ref t), .val (.ref t)] [(.ref u)]))
        obtain ⟨cq39, kq39, q39a, q39b, q39c⟩ := isOf hZ e38 E_u
        obtain ⟨_, _, ⟨T39, L39, k39, n39⟩, -, X39, ⟨Lc39, hQ39, l39, y39, z39⟩, st39⟩ := X38.virtualBack hx (y := (⟨"smalti/space/Condition$Truth", "not", "()Lsmalti/space/Condition$Truth;"⟩ : MethodName)) (z := (⟨"smalti/space/Condition$Truth", "not", "()Lsmalti/space/Condition$Truth;"⟩ : MethodName)) hown (mvT hZ (hw _ (List.mem_of_getElem? (i := 6) rfl))) (mvT hZ (hw _ (List.mem_of_getElem? (i := 7) rfl))) (notFace_of_selects (args := #[]) (mvT hZ (hw _ (List.mem_of_getElem? (i := 9) rfl)))) (mvT hZ (hw _ (List.mem_of_getElem? (i := 9) rfl))) (mvT hZ (hw _ (List.mem_of_getElem? (i := 8) rfl))) (by decide) (backOf (W := 0) (own_not_u l Z a0 hw [] t f u h0 n0 Z0 S_TRUE S_FALSE S_UNKNOWN ne_t_f ne_t_u ne_f_u) hZ (hw _ (List.mem_of_getElem? (i := 10) rfl)) (hw _ (List.mem_of_getElem? (i := 2) rfl)) (by decide) (by decide)) q39a q39c (g := (mkF m 111 #[.val (.int p1), .val (.int p2), .val (.int ((p1 &&& (2147483647 : Int32)) % (3 : Int32))), .val (.ref u), .val (.ref u), .val (.ref u), .val (.int (0 : Int32)), .val (.ref t), .val (.ref t)] [(.ref u)])) rfl (by rw [hml]; rfl) (Steps.refl _) (argsL := []) (rest := []) (lenOf own_pd577329010 rfl) rfl (by show 2 * 0 + _ ≤ _; exact Nat.le_of_eq rfl) (hb hby at_111) (fun _ _ => ⟨rfl, e38, (by decide : 0 + 0 ≤ room_1.cells), (by decide : 0 + 0 ≤ room_1.slots)⟩)
        dsimp only [Pt.U, Pt.locs, Pt.cells, Pt.slots] at X39 l39 y39 z39 st39 hQ39
        subst l39 y39 z39
        obtain ⟨hh39, eh039⟩ : ∃ z, T39.heap = z := ⟨_, rfl⟩
        rw [eh039] at hQ39
        obtain ⟨rfl, Nq39, eh39⟩ := hQ39
        have N39 := Fr.app N38 Nq39
        refine own_tr st39 ?_
        have e39 : T39.heap = h0 := eh039.trans eh39
        show own_Gl _ _ _ _ _ _ _ (T39.setTop (mkF m 114 #[.val (.int p1), .val (.int p2), .val (.int ((p1 &&& (2147483647 : Int32)) % (3 : Int32))), .val (.ref u), .val (.ref u), .val (.ref u), .val (.int (0 : Int32)), .val (.ref t), .val (.ref t)] [(.ref u)]))
        refine own_st (fun _ k => XS.aloadN X39.here hx rfl (hb hby at_114) rfl rfl k) ?_
        show own_Gl _ _ _ _ _ _ _ (T39.setTop (mkF m 115 #[.val (.int p1), .val (.int p2), .val (.int ((p1 &&& (2147483647 : Int32)) % (3 : Int32))), .val (.ref u), .val (.ref u), .val (.ref u), .val (.int (0 : Int32)), .val (.ref t), .val (.ref t)] [(.ref u), (.ref u)]))
        refine own_st (fun _ k => Jvm.RoadKit.acmp (g := (mkF m 115 #[.val (.int p1), .val (.int p2), .val (.int ((p1 &&& (2147483647 : Int32)) % (3 : Int32))), .val (.ref u), .val (.ref u), .val (.ref u), .val (.int (0 : Int32)), .val (.ref t), .val (.ref t)] [(.ref u), (.ref u)])) X39 hx rfl rfl rfl (pc0 := 115) (pc' := 118) (same := true) rfl (hb hby at_115) rfl (decide_eq_true rfl) (by decide) (by decide) k) ?_
        show own_Gl _ _ _ _ _ _ _ (T39.setTop (mkF m 118 #[.val (.int p1), .val (.int p2), .val (.int ((p1 &&& (2147483647 : Int32)) % (3 : Int32))), .val (.ref u), .val (.ref u), .val (.ref u), .val (.int (0 : Int32)), .val (.ref t), .val (.ref t)] []))
        refine own_st (fun _ k => XS.aload X39.here hx rfl (hb hby at_118) rfl rfl k) ?_
        show own_Gl _ _ _ _ _ _ _ (T39.setTop (mkF m 120 #[.val (.int p1), .val (.int p2), .val (.int ((p1 &&& (2147483647 : Int32)) % (3 : Int32))), .val (.ref u), .val (.ref u), .val (.ref u), .val (.int (0 : Int32)), .val (.ref t), .val (.ref t)] [(.ref t)]))
        refine own_st (fun _ k => XS.aload X39.here hx rfl (hb hby at_120) rfl rfl k) ?_
        show own_Gl _ _ _ _ _ _ _ (T39.setTop (mkF m 122 #[.val (.int p1), .val (.int p2), .val (.int ((p1 &&& (2147483647 : Int32)) % (3 : Int32))), .val (.ref u), .val (.ref u), .val (.ref u), .val (.int (0 : Int32)), .val (.ref t), .val (.ref t)] [(.ref t), (.ref t)]))
        refine own_st (fun _ k => Jvm.RoadKit.acmp (g := (mkF m 122 #[.val (.int p1), .val (.int p2), .val (.int ((p1 &&& (2147483647 : Int32)) % (3 : Int32))), .val (.ref u), .val (.ref u), .val (.ref u), .val (.int (0 : Int32)), .val (.ref t), .val (.ref t)] [(.ref t), (.ref t)])) X39 hx rfl rfl rfl (pc0 := 122) (pc' := 125) (same := true) rfl (hb hby at_122) rfl (decide_eq_true rfl) (by decide) (by decide) k) ?_
        show own_Gl _ _ _ _ _ _ _ (T39.setTop (mkF m 125 #[.val (.int p1), .val (.int p2), .val (.int ((p1 &&& (2147483647 : Int32)) % (3 : Int32))), .val (.ref u), .val (.ref u), .val (.ref u), .val (.int (0 : Int32)), .val (.ref t), .val (.ref t)] []))
        refine own_st (fun _ k => XS.iconst X39.here hx rfl (hb hby at_125) k) ?_
        show own_Gl _ _ _ _ _ _ _ (T39.setTop (mkF m 126 #[.val (.int p1), .val (.int p2), .val (.int ((p1 &&& (2147483647 : Int32)) % (3 : Int32))), .val (.ref u), .val (.ref u), .val (.ref u), .val (.int (0 : Int32)), .val (.ref t), .val (.ref t)] [(.int (1 : Int32))]))
        refine own_st (fun _ k => XS.goto X39.here hx rfl (pc0 := 126) (pc' := 130) rfl (hb hby at_126) (by decide) (by decide) k) ?_
        show own_Gl _ _ _ _ _ _ _ (T39.setTop (mkF m 130 #[.val (.int p1), .val (.int p2), .val (.int ((p1 &&& (2147483647 : Int32)) % (3 : Int32))), .val (.ref u), .val (.ref u), .val (.ref u), .val (.int (0 : Int32)), .val (.ref t), .val (.ref t)] [(.int (1 : Int32))]))
        exact own_retN X39 hx hlk (t := .boolean) hret (by simp) (hb hby at_130) e39 ⟨rfl, N39⟩ (by decide) (by decide)
      · refine own_st (fun _ k => XS.ifNo X34.here hx rfl (hb hby at_67) rfl ((if0 _ _).trans (feq hc67).1) k) ?_
        show own_Gl _ _ _ _ _ _ _ (T34.setTop (mkF m 70 #[.val (.int p1), .val (.int p2), .val (.int ((p1 &&& (2147483647 : Int32)) % (3 : Int32))), .val (.ref u), .val (.ref u), .val (.ref u), .unset, .unset, .unset] []))
        refine own_st (fun _ k => XS.iconst X34.here hx rfl (hb hby at_70) k) ?_
        show own_Gl _ _ _ _ _ _ _ (T34.setTop (mkF m 71 #[.val (.int p1), .val (.int p2), .val (.int ((p1 &&& (2147483647 : Int32)) % (3 : Int32))), .val (.ref u), .val (.ref u), .val (.ref u), .unset, .unset, .unset] [(.int (1 : Int32))]))
        refine own_st (fun _ k => XS.goto X34.here hx rfl (pc0 := 71) (pc' := 75) rfl (hb hby at_71) (by decide) (by decide) k) ?_
        show own_Gl _ _ _ _ _ _ _ (T34.setTop (mkF m 75 #[.val (.int p1), .val (.int p2), .val (.int ((p1 &&& (2147483647 : Int32)) % (3 : Int32))), .val (.ref u), .val (.ref u), .val (.ref u), .unset, .unset, .unset] [(.int (1 : Int32))]))
        refine own_st (fun _ k => XS.istore X34.here hx rfl (hb hby at_75) rfl (l' := #[.val (.int p1), .val (.int p2), .val (.int ((p1 &&& (2147483647 : Int32)) % (3 : Int32))), .val (.ref u), .val (.ref u), .val (.ref u), .val (.int (1 : Int32)), .unset, .unset]) rfl k) ?_
        show own_Gl _ _ _ _ _ _ _ (T34.setTop (mkF m 77 #[.val (.int p1), .val (.int p2), .val (.int ((p1 &&& (2147483647 : Int32)) % (3 : Int32))), .val (.ref u), .val (.ref u), .val (.ref u), .val (.int (1 : Int32)), .unset, .unset] []))
        refine own_st (fun _ k => XS.iload X34.here hx rfl (hb hby at_77) rfl k) ?_
        show own_Gl _ _ _ _ _ _ _ (T34.setTop (mkF m 79 #[.val (.int p1), .val (.int p2), .val (.int ((p1 &&& (2147483647 : Int32)) % (3 : Int32))), .val (.ref u), .val (.ref u), .val (.ref u), .val (.int (1 : Int32)), .unset, .unset] [(.int (1 : Int32))]))
        obtain ⟨_, _, ⟨T40, L40, k40, n40⟩, -, X40, ⟨Lc40, hQ40, l40, y40, z40⟩, st40⟩ := Jvm.LawKit.callS X34 hx (y := (⟨"smalti/space/Condition$Truth", "of", "(Z)Lsmalti/space/Condition$Truth;"⟩ : MethodName)) hown (mvT hZ (hw _ (List.mem_of_getElem? (i := 13) rfl))) (mvT hZ (hw _ (List.mem_of_getElem? (i := 14) rfl))) (mvT hZ (hw _ (List.mem_of_getElem? (i := 2) rfl))) (mvT hZ (hw _ (List.mem_of_getElem? (i := 15) rfl))) (by decide) (backOf (W := 0) (own_of_1 l Z a0 hw [] t f u h0 n0 Z0 S_TRUE S_FALSE S_UNKNOWN) hZ (hw _ (List.mem_of_getElem? (i := 15) rfl)) (hw _ (List.mem_of_getElem? (i := 2) rfl)) (by decide) (by decide)) (g := (mkF m 79 #[.val (.int p1), .val (.int p2), .val (.int ((p1 &&& (2147483647 : Int32)) % (3 : Int32))), .val (.ref u), .val (.ref u), .val (.ref u), .val (.int (1 : Int32)), .unset, .unset] [(.int (1 : Int32))])) rfl (by rw [hml]; rfl) (argsL := [(.int (1 : Int32))]) (rest := []) (lenOf own_pd211156806 rfl) rfl (by show 2 * 0 + _ ≤ _; exact Nat.le_of_eq rfl) (hb hby at_79) (fun _ _ => ⟨rfl, e34, (by decide : 0 + 0 ≤ room_1.cells), (by decide : 0 + 0 ≤ room_1.slots)⟩)
        dsimp only [Pt.U, Pt.locs, Pt.cells, Pt.slots] at X40 l40 y40 z40 st40 hQ40
        subst l40 y40 z40
        obtain ⟨hh40, eh040⟩ : ∃ z, T40.heap = z := ⟨_, rfl⟩
        rw [eh040] at hQ40
        obtain ⟨rfl, Nq40, eh40⟩ := hQ40
        have N40 := Fr.app N34 Nq40
        refine own_st st40 ?_
        have e40 : T40.heap = h0 := eh040.trans eh40
        show own_Gl _ _ _ _ _ _ _ (T40.setTop (mkF m 82 #[.val (.int p1), .val (.int p2), .val (.int ((p1 &&& (2147483647 : Int32)) % (3 : Int32))), .val (.ref u), .val (.ref u), .val (.ref u), .val (.int (1 : Int32)), .unset, .unset] [(.ref t)]))
        obtain ⟨cq41, kq41, q41a, q41b, q41c⟩ := isOf hZ e40 E_t
        obtain ⟨_, _, ⟨T41, L41, k41, n41⟩, -, X41, ⟨Lc41, hQ41, l41, y41, z41⟩, st41⟩ := X40.virtualBack hx (y := (⟨"smalti/space/Condition$Truth", "not", "()Lsmalti/space/Condition$Truth;"⟩ : MethodName)) (z := (⟨"smalti/space/Condition$Truth", "not", "()Lsmalti/space/Condition$Truth;"⟩ : MethodName)) hown (mvT hZ (hw _ (List.mem_of_getElem? (i := 6) rfl))) (mvT hZ (hw _ (List.mem_of_getElem? (i := 7) rfl))) (notFace_of_selects (args := #[]) (mvT hZ (hw _ (List.mem_of_getElem? (i := 9) rfl)))) (mvT hZ (hw _ (List.mem_of_getElem? (i := 9) rfl))) (mvT hZ (hw _ (List.mem_of_getElem? (i := 8) rfl))) (by decide) (backOf (W := 0) (own_not_t l Z a0 hw [] t f u h0 n0 Z0 S_TRUE S_FALSE S_UNKNOWN ne_t_f ne_t_u ne_f_u) hZ (hw _ (List.mem_of_getElem? (i := 10) rfl)) (hw _ (List.mem_of_getElem? (i := 2) rfl)) (by decide) (by decide)) q41a q41c (g := (mkF m 82 #[.val (.int p1), .val (.int p2), .val (.int ((p1 &&& (2147483647 : Int32)) % (3 : Int32))), .val (.ref u), .val (.ref u), .val (.ref u), .val (.int (1 : Int32)), .unset, .unset] [(.ref t)])) rfl (by rw [hml]; rfl) (Steps.refl _) (argsL := []) (rest := []) (lenOf own_pd577329010 rfl) rfl (by show 2 * 0 + _ ≤ _; exact Nat.le_of_eq rfl) (hb hby at_82) (fun _ _ => ⟨rfl, e40, (by decide : 0 + 0 ≤ room_1.cells), (by decide : 0 + 0 ≤ room_1.slots)⟩)
        dsimp only [Pt.U, Pt.locs, Pt.cells, Pt.slots] at X41 l41 y41 z41 st41 hQ41
        subst l41 y41 z41
        obtain ⟨hh41, eh041⟩ : ∃ z, T41.heap = z := ⟨_, rfl⟩
        rw [eh041] at hQ41
        obtain ⟨rfl, Nq41, eh41⟩ := hQ41
        have N41 := Fr.app N40 Nq41
        refine own_tr st41 ?_
        have e41 : T41.heap = h0 := eh041.trans eh41
        show own_Gl _ _ _ _ _ _ _ (T41.setTop (mkF m 85 #[.val (.int p1), .val (.int p2), .val (.int ((p1 &&& (2147483647 : Int32)) % (3 : Int32))), .val (.ref u), .val (.ref u), .val (.ref u), .val (.int (1 : Int32)), .unset, .unset] [(.ref f)]))
        refine own_st (fun _ k => XS.astore X41.here hx rfl (hb hby at_85) rfl rfl (l' := #[.val (.int p1), .val (.int p2), .val (.int ((p1 &&& (2147483647 : Int32)) % (3 : Int32))), .val (.ref u), .val (.ref u), .val (.ref u), .val (.int (1 : Int32)), .val (.ref f), .unset]) rfl k) ?_
        show own_Gl _ _ _ _ _ _ _ (T41.setTop (mkF m 87 #[.val (.int p1), .val (.int p2), .val (.int ((p1 &&& (2147483647 : Int32)) % (3 : Int32))), .val (.ref u), .val (.ref u), .val (.ref u), .val (.int (1 : Int32)), .val (.ref f), .unset] []))
        refine own_st (fun _ k => XS.iload X41.here hx rfl (hb hby at_87) rfl k) ?_
        show own_Gl _ _ _ _ _ _ _ (T41.setTop (mkF m 89 #[.val (.int p1), .val (.int p2), .val (.int ((p1 &&& (2147483647 : Int32)) % (3 : Int32))), .val (.ref u), .val (.ref u), .val (.ref u), .val (.int (1 : Int32)), .val (.ref f), .unset] [(.int (1 : Int32))]))
        have hd42 : ¬ ((1 : Int32) = (0 : Int32)) := (by decide)
        refine own_st (fun _ k => XS.ifYes X41.here hx rfl (pc0 := 89) (pc' := 96) rfl (hb hby at_89) rfl ((if0 _ _).trans (feq hd42).2) (by decide) (by decide) k) ?_
        show own_Gl _ _ _ _ _ _ _ (T41.setTop (mkF m 96 #[.val (.int p1), .val (.int p2), .val (.int ((p1 &&& (2147483647 : Int32)) % (3 : Int32))), .val (.ref u), .val (.ref u), .val (.ref u), .val (.int (1 : Int32)), .val (.ref f), .unset] []))
        refine own_st (fun _ k => XS.iconst X41.here hx rfl (hb hby at_96) k) ?_
        show own_Gl _ _ _ _ _ _ _ (T41.setTop (mkF m 97 #[.val (.int p1), .val (.int p2), .val (.int ((p1 &&& (2147483647 : Int32)) % (3 : Int32))), .val (.ref u), .val (.ref u), .val (.ref u), .val (.int (1 : Int32)), .val (.ref f), .unset] [(.int (0 : Int32))]))
        obtain ⟨_, _, ⟨T43, L43, k43, n43⟩, -, X43, ⟨Lc43, hQ43, l43, y43, z43⟩, st43⟩ := Jvm.LawKit.callS X41 hx (y := (⟨"smalti/space/Condition$Truth", "of", "(Z)Lsmalti/space/Condition$Truth;"⟩ : MethodName)) hown (mvT hZ (hw _ (List.mem_of_getElem? (i := 13) rfl))) (mvT hZ (hw _ (List.mem_of_getElem? (i := 14) rfl))) (mvT hZ (hw _ (List.mem_of_getElem? (i := 2) rfl))) (mvT hZ (hw _ (List.mem_of_getElem? (i := 15) rfl))) (by decide) (backOf (W := 0) (own_of_0 l Z a0 hw [] t f u h0 n0 Z0 S_TRUE S_FALSE S_UNKNOWN) hZ (hw _ (List.mem_of_getElem? (i := 15) rfl)) (hw _ (List.mem_of_getElem? (i := 2) rfl)) (by decide) (by decide)) (g := (mkF m 97 #[.val (.int p1), .val (.int p2), .val (.int ((p1 &&& (2147483647 : Int32)) % (3 : Int32))), .val (.ref u), .val (.ref u), .val (.ref u), .val (.int (1 : Int32)), .val (.ref f), .unset] [(.int (0 : Int32))])) rfl (by rw [hml]; rfl) (argsL := [(.int (0 : Int32))]) (rest := []) (lenOf own_pd211156806 rfl) rfl (by show 2 * 0 + _ ≤ _; exact Nat.le_of_eq rfl) (hb hby at_97) (fun _ _ => ⟨rfl, e41, (by decide : 0 + 0 ≤ room_1.cells), (by decide : 0 + 0 ≤ room_1.slots)⟩)
        dsimp only [Pt.U, Pt.locs, Pt.cells, Pt.slots] at X43 l43 y43 z43 st43 hQ43
        subst l43 y43 z43
        obtain ⟨hh43, eh043⟩ : ∃ z, T43.heap = z := ⟨_, rfl⟩
        rw [eh043] at hQ43
        obtain ⟨rfl, Nq43, eh43⟩ := hQ43
        have N43 := Fr.app N41 Nq43
        refine own_st st43 ?_
        have e43 : T43.heap = h0 := eh043.trans eh43
        show own_Gl _ _ _ _ _ _ _ (T43.setTop (mkF m 100 #[.val (.int p1), .val (.int p2), .val (.int ((p1 &&& (2147483647 : Int32)) % (3 : Int32))), .val (.ref u), .val (.ref u), .val (.ref u), .val (.int (1 : Int32)), .val (.ref f), .unset] [(.ref f)]))
        refine own_st (fun _ k => XS.astore X43.here hx rfl (hb hby at_100) rfl rfl (l' := #[.val (.int p1), .val (.int p2), .val (.int ((p1 &&& (2147483647 : Int32)) % (3 : Int32))), .val (.ref u), .val (.ref u), .val (.ref u), .val (.int (1 : Int32)), .val (.ref f), .val (.ref f)]) rfl k) ?_
        show own_Gl _ _ _ _ _ _ _ (T43.setTop (mkF m 102 #[.val (.int p1), .val (.int p2), .val (.int ((p1 &&& (2147483647 : Int32)) % (3 : Int32))), .val (.ref u), .val (.ref u), .val (.ref u), .val (.int (1 : Int32)), .val (.ref f), .val (.ref f)] []))
        refine own_st (fun _ k => XS.aload X43.here hx rfl (hb hby at_102) rfl rfl k) ?_
        show own_Gl _ _ _ _ _ _ _ (T43.setTop (mkF m 104 #[.val (.int p1), .val (.int p2), .val (.int ((p1 &&& (2147483647 : Int32)) % (3 : Int32))), .val (.ref u), .val (.ref u), .val (.ref u), .val (.int (1 : Int32)), .val (.ref f), .val (.ref f)] [(.ref u)]))
        refine own_st (fun _ k => XS.aload X43.here hx rfl (hb hby at_104) rfl rfl k) ?_
        show own_Gl _ _ _ _ _ _ _ (T43.setTop (mkF m 106 #[.val (.int p1), .val (.int p2), .val (.int ((p1 &&& (2147483647 : Int32)) % (3 : Int32))), .val (.ref u), .val (.ref u), .val (.ref u), .val (.int (1 : Int32)), .val (.ref f), .val (.ref f)] [(.ref u), (.ref u)]))
        refine own_st (fun _ k => Jvm.RoadKit.acmp (g := (mkF m 106 #[.val (.int p1), .val (.int p2), .val (.int ((p1 &&& (2147483647 : Int32)) % (3 : Int32))), .val (.ref u), .val (.ref u), .val (.ref u), .val (.int (1 : Int32)), .val (.ref f), .val (.ref f)] [(.ref u), (.ref u)])) X43 hx rfl rfl rfl (pc0 := 106) (pc' := 109) (same := true) rfl (hb hby at_106) rfl (decide_eq_true rfl) (by decide) (by decide) k) ?_
        show own_Gl _ _ _ _ _ _ _ (T43.setTop (mkF m 109 #[.val (.int p1), .val (.int p2), .val (.int ((p1 &&& (2147483647 : Int32)) % (3 : Int32))), .val (.ref u), .val (.ref u), .val (.ref u), .val (.int (1 : Int32)), .val (.ref f), .val (.ref f)] []))
        refine own_st (fun _ k => XS.aload X43.here hx rfl (hb hby at_109) rfl rfl k) ?_
        show own_Gl _ _ _ _ _ _ _ (T43.setTop (mkF m 111 #[.val (.int p1), .val (.int p2), .val (.int ((p1 &&& (2147483647 : Int32)) % (3 : Int32))), .val (.ref u), .val (.ref u), .val (.ref u), .val (.int (1 : Int32)), .val (.ref f), .val (.ref f)] [(.ref u)]))
        obtain ⟨cq44, kq44, q44a, q44b, q44c⟩ := isOf hZ e43 E_u
        obtain ⟨_, _, ⟨T44, L44, k44, n44⟩, -, X44, ⟨Lc44, hQ44, l44, y44, z44⟩, st44⟩ := X43.virtualBack hx (y := (⟨"smalti/space/Condition$Truth", "not", "()Lsmalti/space/Condition$Truth;"⟩ : MethodName)) (z := (⟨"smalti/space/Condition$Truth", "not", "()Lsmalti/space/Condition$Truth;"⟩ : MethodName)) hown (mvT hZ (hw _ (List.mem_of_getElem? (i := 6) rfl))) (mvT hZ (hw _ (List.mem_of_getElem? (i := 7) rfl))) (notFace_of_selects (args := #[]) (mvT hZ (hw _ (List.mem_of_getElem? (i := 9) rfl)))) (mvT hZ (hw _ (List.mem_of_getElem? (i := 9) rfl))) (mvT hZ (hw _ (List.mem_of_getElem? (i := 8) rfl))) (by decide) (backOf (W := 0) (own_not_u l Z a0 hw [] t f u h0 n0 Z0 S_TRUE S_FALSE S_UNKNOWN ne_t_f ne_t_u ne_f_u) hZ (hw _ (List.mem_of_getElem? (i := 10) rfl)) (hw _ (List.mem_of_getElem? (i := 2) rfl)) (by decide) (by decide)) q44a q44c (g := (mkF m 111 #[.val (.int p1), .val (.int p2), .val (.int ((p1 &&& (2147483647 : Int32)) % (3 : Int32))), .val (.ref u), .val (.ref u), .val (.ref u), .val (.int (1 : Int32)), .val (.ref f), .val (.ref f)] [(.ref u)])) rfl (by rw [hml]; rfl) (Steps.refl _) (argsL := []) (rest := []) (lenOf own_pd577329010 rfl) rfl (by show 2 * 0 + _ ≤ _; exact Nat.le_of_eq rfl) (hb hby at_111) (fun _ _ => ⟨rfl, e43, (by decide : 0 + 0 ≤ room_1.cells), (by decide : 0 + 0 ≤ room_1.slots)⟩)
        dsimp only [Pt.U, Pt.locs, Pt.cells, Pt.slots] at X44 l44 y44 z44 st44 hQ44
        subst l44 y44 z44
        obtain ⟨hh44, eh044⟩ : ∃ z, T44.heap = z := ⟨_, rfl⟩
        rw [eh044] at hQ44
        obtain ⟨rfl, Nq44, eh44⟩ := hQ44
        have N44 := Fr.app N43 Nq44
        refine own_tr st44 ?_
        have e44 : T44.heap = h0 := eh044.trans eh44
        show own_Gl _ _ _ _ _ _ _ (T44.setTop (mkF m 114 #[.val (.int p1), .val (.int p2), .val (.int ((p1 &&& (2147483647 : Int32)) % (3 : Int32))), .val (.ref u), .val (.ref u), .val (.ref u), .val (.int (1 : Int32)), .val (.ref f), .val (.ref f)] [(.ref u)]))
        refine own_st (fun _ k => XS.aloadN X44.here hx rfl (hb hby at_114) rfl rfl k) ?_
        show own_Gl _ _ _ _ _ _ _ (T44.setTop (mkF m 115 #[.val (.int p1), .val (.int p2), .val (.int ((p1 &&& (2147483647 : Int32)) % (3 : Int32))), .val (.ref u), .val (.ref u), .val (.ref u), .val (.int (1 : Int32)), .val (.ref f), .val (.ref f)] [(.ref u), (.ref u)]))
        refine own_st (fun _ k => Jvm.RoadKit.acmp (g := (mkF m 115 #[.val (.int p1), .val (.int p2), .val (.int ((p1 &&& (2147483647 : Int32)) % (3 : Int32))), .val (.ref u), .val (.ref u), .val (.ref u), .val (.int (1 : Int32)), .val (.ref f), .val (.ref f)] [(.ref u), (.ref u)])) X44 hx rfl rfl rfl (pc0 := 115) (pc' := 118) (same := true) rfl (hb hby at_115) rfl (decide_eq_true rfl) (by decide) (by decide) k) ?_
        show own_Gl _ _ _ _ _ _ _ (T44.setTop (mkF m 118 #[.val (.int p1), .val (.int p2), .val (.int ((p1 &&& (2147483647 : Int32)) % (3 : Int32))), .val (.ref u), .val (.ref u), .val (.ref u), .val (.int (1 : Int32)), .val (.ref f), .val (.ref f)] []))
        refine own_st (fun _ k => XS.aload X44.here hx rfl (hb hby at_118) rfl rfl k) ?_
        show own_Gl _ _ _ _ _ _ _ (T44.setTop (mkF m 120 #[.val (.int p1), .val (.int p2), .val (.int ((p1 &&& (2147483647 : Int32)) % (3 : Int32))), .val (.ref u), .val (.ref u), .val (.ref u), .val (.int (1 : Int32)), .val (.ref f), .val (.ref f)] [(.ref f)]))
        refine own_st (fun _ k => XS.aload X44.here hx rfl (hb hby at_120) rfl rfl k) ?_
        show own_Gl _ _ _ _ _ _ _ (T44.setTop (mkF m 122 #[.val (.int p1), .val (.int p2), .val (.int ((p1 &&& (2147483647 : Int32)) % (3 : Int32))), .val (.ref u), .val (.ref u), .val (.ref u), .val (.int (1 : Int32)), .val (.ref f), .val (.ref f)] [(.ref f), (.ref f)]))
        refine own_st (fun _ k => Jvm.RoadKit.acmp (g := (mkF m 122 #[.val (.int p1), .val (.int p2), .val (.int ((p1 &&& (2147483647 : Int32)) % (3 : Int32))), .val (.ref u), .val (.ref u), .val (.ref u), .val (.int (1 : Int32)), .val (.ref f), .val (.ref f)] [(.ref f), (.ref f)])) X44 hx rfl rfl rfl (pc0 := 122) (pc' := 125) (same := true) rfl (hb hby at_122) rfl (decide_eq_true rfl) (by decide) (by decide) k) ?_
        show own_Gl _ _ _ _ _ _ _ (T44.setTop (mkF m 125 #[.val (.int p1), .val (.int p2), .val (.int ((p1 &&& (2147483647 : Int32)) % (3 : Int32))), .val (.ref u), .val (.ref u), .val (.ref u), .val (.int (1 : Int32)), .val (.ref f), .val (.ref f)] []))
        refine own_st (fun _ k => XS.iconst X44.here hx rfl (hb hby at_125) k) ?_
        show own_Gl _ _ _ _ _ _ _ (T44.setTop (mkF m 126 #[.val (.int p1), .val (.int p2), .val (.int ((p1 &&& (2147483647 : Int32)) % (3 : Int32))), .val (.ref u), .val (.ref u), .val (.ref u), .val (.int (1 : Int32)), .val (.ref f), .val (.ref f)] [(.int (1 : Int32))]))
        refine own_st (fun _ k => XS.goto X44.here hx rfl (pc0 := 126) (pc' := 130) rfl (hb hby at_126) (by decide) (by decide) k) ?_
        show own_Gl _ _ _ _ _ _ _ (T44.setTop (mkF m 130 #[.val (.int p1), .val (.int p2), .val (.int ((p1 &&& (2147483647 : Int32)) % (3 : Int32))), .val (.ref u), .val (.ref u), .val (.ref u), .val (.int (1 : Int32)), .val (.ref f), .val (.ref f)] [(.int (1 : Int32))]))
        exact own_retN X44 hx hlk (t := .boolean) hret (by simp) (hb hby at_130) e44 ⟨rfl, N44⟩ (by decide) (by decide)
set_option maxRecDepth 65536 in
set_option maxHeartbeats 40000000 in
theorem comes_1 {Post : Tables → Env → Array Value → State → Outcome → State → Prop} (hpost : ∀ tb e args s v u, (limb_1_1.after args s (.returned v) u = true ∧ limb_1_2.after args s (.returned v) u = true ∧ True) → FrameEnd s (.returned v) u (Jvm.fieldLocs frame_1_writes args s ++ Jvm.arrayLocs frame_1_arrays args s ++ Jvm.staticLocs frame_1_statics s) 0 0 → Post tb e args s (.returned v) u) :
    ArmFor flags0 classFile x code maxLocals ret World_1 tables_1 room_1 Calls_1 rest_1 Pre_1 Post := by
  intro l hfl _ _ p e ha hc hk s m args below hf hA hF happ hP
  obtain ⟨hcalls, hrest, hpre⟩ := hP
  obtain ⟨-, -, -, hnamed, -, -, -, hat⟩ := (Spec.applies_iff hf).mp happ
  obtain ⟨hg, hn⟩ := and_e (Cond.before_iff.mp (show (Jvm.Cond.and given_1 narrow_1).before args s = true from hpre))
  obtain ⟨gg1, gg2⟩ := and_e hg
  obtain ⟨gg3, gg4⟩ := and_e gg2
  obtain ⟨w0, w1, rfl⟩ : ∃ w0 w1 : Value, args = #[w0, w1] := by
    have hs : args.size = 2 := by simpa [Cond.value, given_1] using gg1
    obtain ⟨L⟩ := args
    match L, hs with
    | [w0, w1], _ => exact ⟨w0, w1, rfl⟩
  have hw := fun d (hd : d ∈ tables_1) => atoms_spec (ws := Jvm.Cond.code x code maxLocals ret :: tables_1) hat d (List.mem_cons_of_mem _ hd)
  have hfit : Fit s := fun {y c} hc i hi => by
    obtain ⟨ha, rfl⟩ := Array.getElem?_eq_some_iff.mp hc
    have q := List.all_eq_true.mp ((Array.all_eq_true_iff_forall_mem.mp hF) _ (Array.getElem_mem ha)) i (List.mem_range.mpr hi)
    simpa [Array.getElem?_eq_getElem hi] using q
  obtain ⟨i0, ei0⟩ := is_v gg3
  obtain rfl : w0 = (.int i0) := Option.some.inj ei0
  obtain ⟨i1, ei1⟩ := is_v gg4
  obtain rfl : w1 = (.int i1) := Option.some.inj ei1
  obtain ⟨nn1, nn2⟩ := and_e hn
  obtain ⟨t, ev_t⟩ := exa_v nn1
  have xe_t := Exa.start ev_t nn1
  have xs_t := Sta.start ev_t (Or.inr ⟨(hw _ (List.mem_of_getElem? (i := 2) rfl)), (hw _ (List.mem_of_getElem? (i := 3) rfl))⟩)
  obtain ⟨nn3, nn4⟩ := and_e nn2
  obtain ⟨f, ev_f⟩ := exa_v nn3
  have xe_f := Exa.start ev_f nn3
  have xs_f := Sta.start ev_f (Or.inr ⟨(hw _ (List.mem_of_getElem? (i := 2) rfl)), (hw _ (List.mem_of_getElem? (i := 5) rfl))⟩)
  obtain ⟨nn5, nn6⟩ := and_e nn4
  have xo_f := own_fld_start ev_f nn5
  obtain ⟨nn7, nn8⟩ := and_e nn6
  have xo_t := own_fld_start ev_t nn7
  obtain ⟨nn9, nn10⟩ := and_e nn8
  obtain ⟨u, ev_u⟩ := exa_v nn9
  have xe_u := Exa.start ev_u nn9
  have xs_u := Sta.start ev_u (Or.inr ⟨(hw _ (List.mem_of_getElem? (i := 2) rfl)), (hw _ (List.mem_of_getElem? (i := 17) rfl))⟩)
  have xo_u := own_fld_start ev_u nn10
  have xn_t_f : t ≠ f := Fld.ne xo_t xo_f (by decide)
  have xn_t_u : t ≠ u := Fld.ne xo_t xo_u (by decide)
  have xn_f_u : f ≠ u := Fld.ne xo_f xo_u (by decide)
  obtain ⟨n, o, h1, h2, h3, _, L, rfl, ⟨rfl, N⟩, hq⟩ := own_law l s _ hw tables_1 i0 i1 t f u s.heap s.heap.size (Nat.le_refl _) xs_t xs_f xs_u xe_t xe_f xe_u xn_t_f xn_t_u xn_f_u p e ha hc hk s m _ below hf ((Spec.applies_iff_loose hf).mp happ).1 ⟨rfl, State.Warmed39.refl s, rfl⟩ trivial
  refine ⟨n, _, h1, h2, h3, hpost _ _ _ _ _ _ ⟨Cond.after_iff.mpr rfl, Cond.after_iff.mpr (eq_i res_at (Term.int_eval (1)) rfl), trivial⟩ ⟨hq.1, hq.2.1, (hq.2.2.sift fun y hy => Or.inr (N y hy)).mono (by decide) (by decide)⟩⟩
theorem main_1_1 : Claimed_1_1 := comes_1 fun _ _ _ _ _ _ h hF => ⟨h.1, hF⟩
theorem main_1_2 : Claimed_1_2 := comes_1 fun _ _ _ _ _ _ h hF => ⟨h.2.1, hF⟩

end Jvm.Pilot.@@N@@
namespace Jvm.Pilot.@@N@@
open Jvm Jvm.ClassFile Sem Op Lib Jvm.Free Jvm.Stand Jvm.Pilot.@@N@@.Jvm.D
/-! MADE BY PROGRAM (witnessworld.py) out of the Statement's table words and the real class files: 12 classes; the members and pool entries that the words name. The judged class is class 1, her method 1. -/
namespace start1
open Jvm.ClassFile
def u (s : String) : CpInfo := .utf8 (stringToUtf16 s)
/-- a pool by its gaps: so many unusable entries, then the entry; so many at the end -/
def gap : Nat → List CpInfo → List CpInfo
  | 0, r => r
  | n + 1, r => .unusable :: gap n r
def poolList (es : List (Nat × CpInfo)) (last : Nat) : List CpInfo := es.foldr (fun e r => gap e.1 (e.2 :: r)) (gap last [])
def pool (es : List (Nat × CpInfo)) (last : Nat) : Array CpInfo := ⟨poolList es last⟩
def fileOf (pool : Array CpInfo) (this : Nat) (attrs : Array Attribute := #[]) (ms : Array MethodInfo := #[]) (fl : Nat := 33) (sup : Nat := 0) (ifs : Array Nat := #[]) (fds : Array FieldInfo := #[]) : ClassFile where
  minorVersion := 0
  majorVersion := 65
  constantPool := pool
  accessFlags := fl
  thisClass := this
  superClass := sup
  interfaces := ifs
  fields := fds
  methods := ms
  attributes := attrs
def plain (name : String) (sup : Option ClassId) : Class where
  name := name
  kind := .ordinary
  loader := none
  accessFlags := 33
  super := sup
  interfaces := #[]
  cf := none
  fields := #[]
  methods := #[]
  instanceTypes := #[]
  staticTypes := #[]
  resolved := #[]
  callSites := []
  init := .initialized
  statics := none
  mirror := none

def pool0 : Array CpInfo := pool [(5, u "<init>"), (0, u "()V"), (1, .class_ 10), (1, u "java/lang/Object")] 113

def k0m0 : Method := { name := "<init>", desc := "()V", sig := { parameters := [], returnType := none }, accessFlags := 1, code := none }
/-- java/lang/Object -/
def k0 : Class := { plain "java/lang/Object" none with
  accessFlags := 33
  interfaces := #[]
  cf := some (fileOf pool0 8 #[] #[{ accessFlags := 1, nameIndex := 5, descriptorIndex := 6, attributes := #[] }] 33 0 #[] #[])
  fields := #[]
  methods := #[k0m0]
  instanceTypes := #[]
  staticTypes := #[]
  resolved := Array.replicate 124 none
  statics := none }

def pool1 : Array CpInfo := pool [(2, .class_ 4), (1, u "java/lang/Object"), (0, u "<init>"), (0, u "()V"), (0, .integer 2147483647), (0, .fieldref 9 10), (0, .class_ 11), (0, .nameAndType 12 13), (0, u "smalti/space/Condition$Truth"), (0, u "TRUE"), (0, u "Lsmalti/space/Condition$Truth;"), (0, .fieldref 9 15), (0, .nameAndType 16 13), (0, u "FALSE"), (0, .fieldref 9 18), (0, .nameAndType 19 13), (0, u "UNKNOWN"), (0, .methodref 9 21), (0, .nameAndType 22 23), (0, u "not"), (0, u "()Lsmalti/space/Condition$Truth;"), (0, .methodref 9 25), (0, .nameAndType 26 27), (0, u "of"), (0, u "(Z)Lsmalti/space/Condition$Truth;"), (0, .class_ 29), (0, u "smalti/space/TruthNotPinLaw"), (2, u "law"), (0, u "(II)Z")] 7

def k1m0 : Method := { name := "<init>", desc := "()V", sig := { parameters := [], returnType := none }, accessFlags := 1, code := none }
def k1c1 : Code := { maxStack := 2, maxLocals := 9, code := code, exceptionTable := #[], attributes := #[] }
def k1m1 : Method := { name := "law", desc := "(II)Z", sig := { parameters := [.int, .int], returnType := some .boolean }, accessFlags := 9, code := some k1c1 }
/-- smalti/space/TruthNotPinLaw -/
def k1 : Class := { plain "smalti/space/TruthNotPinLaw" (some 0) with
  accessFlags := 49
  interfaces := #[]
  cf := some (fileOf pool1 28 #[] #[{ accessFlags := 1, nameIndex := 5, descriptorIndex := 6, attributes := #[] }, { accessFlags := 9, nameIndex := 32, descriptorIndex := 33, attributes := #[] }] 49 2 #[] #[])
  fields := #[]
  methods := #[k1m0, k1m1]
  instanceTypes := #[]
  staticTypes := #[]
  resolved := Array.replicate 41 none
  statics := none }

def pool2 : Array CpInfo := pool [(1, .class_ 2), (0, u "java/lang/constant/Constable"), (0, .class_ 4), (0, u "java/lang/Object")] 6

/-- java/lang/constant/Constable -/
def k2 : Class := { plain "java/lang/constant/Constable" (some 0) with
  accessFlags := 1537
  interfaces := #[]
  cf := some (fileOf pool2 1 #[] #[] 1537 3 #[] #[])
  fields := #[]
  methods := #[]
  instanceTypes := #[]
  staticTypes := #[]
  resolved := Array.replicate 11 none
  statics := none }

def pool3 : Array CpInfo := pool [(1, .class_ 2), (0, u "java/lang/Comparable"), (0, .class_ 4), (0, u "java/lang/Object")] 7

/-- java/lang/Comparable -/
def k3 : Class := { plain "java/lang/Comparable" (some 0) with
  accessFlags := 1537
  interfaces := #[]
  cf := some (fileOf pool3 1 #[] #[] 1537 3 #[] #[])
  fields := #[]
  methods := #[]
  instanceTypes := #[]
  staticTypes := #[]
  resolved := Array.replicate 12 none
  statics := none }

def pool4 : Array CpInfo := pool [(1, .class_ 2), (0, u "java/io/Serializable"), (0, .class_ 4), (0, u "java/lang/Object")] 2

/-- java/io/Serializable -/
def k4 : Class := { plain "java/io/Serializable" (some 0) with
  accessFlags := 1537
  interfaces := #[]
  cf := some (fileOf pool4 1 #[] #[] 1537 3 #[] #[])
  fields := #[]
  methods := #[]
  instanceTypes := #[]
  staticTypes := #[]
  resolved := Array.replicate 7 none
  statics := none }

def pool5 : Array CpInfo := pool [(2, .class_ 4), (1, u "java/lang/Enum"), (0, u "name"), (0, u "Ljava/lang/String;"), (2, u "ordinal"), (0, u "I"), (1, .class_ 14), (1, u "java/lang/Object"), (4, u "hash"), (86, .class_ 108), (1, u "java/lang/Enum$EnumDesc"), (2, .class_ 112), (0, u "java/lang/constant/Constable"), (0, .class_ 114), (0, u "java/lang/Comparable"), (0, .class_ 116), (0, u "java/io/Serializable")] 87

/-- java/lang/Enum -/
def k5 : Class := { plain "java/lang/Enum" (some 0) with
  accessFlags := 1057
  interfaces := #[2, 3, 4]
  cf := some (fileOf pool5 2 #[.nestMembers #[106]] #[] 1057 12 #[111, 113, 115] #[{ accessFlags := 18, nameIndex := 5, descriptorIndex := 6, attributes := #[] }, { accessFlags := 18, nameIndex := 9, descriptorIndex := 10, attributes := #[] }, { accessFlags := 2, nameIndex := 19, descriptorIndex := 10, attributes := #[] }])
  fields := #[{ name := "name", type := (.object "java/lang/String"), accessFlags := 18, slot := 0, constantValue := 0 }, { name := "ordinal", type := .int, accessFlags := 18, slot := 1, constantValue := 0 }, { name := "hash", type := .int, accessFlags := 2, slot := 2, constantValue := 0 }]
  methods := #[]
  instanceTypes := #[(.object "java/lang/String"), .int, .int]
  staticTypes := #[]
  resolved := Array.replicate 204 none
  statics := none }

def pool6 : Array CpInfo := pool [(1, .class_ 2), (0, u "smalti/space/Condition$Truth"), (0, .fieldref 1 4), (0, .nameAndType 5 6), (0, u "TRUE"), (0, u "Lsmalti/space/Condition$Truth;"), (0, .fieldref 1 8), (0, .nameAndType 9 6), (0, u "FALSE"), (0, .fieldref 1 11), (0, .nameAndType 12 6), (0, u "UNKNOWN"), (2, u "$VALUES"), (0, u "[Lsmalti/space/Condition$Truth;"), (6, .class_ 25), (1, u "java/lang/Enum"), (21, u "of"), (0, u "(Z)Lsmalti/space/Condition$Truth;"), (1, u "not"), (0, u "()Lsmalti/space/Condition$Truth;"), (5, .class_ 58), (0, u "smalti/space/Condition")] 2

def k6c0 : Code := { maxStack := 1, maxLocals := 1, code := prog_80_method_4_code, exceptionTable := #[], attributes := #[] }
def k6m0 : Method := { name := "of", desc := "(Z)Lsmalti/space/Condition$Truth;", sig := { parameters := [.boolean], returnType := some (.object "smalti/space/Condition$Truth") }, accessFlags := 8, code := some k6c0 }
def k6c1 : Code := { maxStack := 2, maxLocals := 1, code := prog_80_method_5_code, exceptionTable := #[], attributes := #[] }
def k6m1 : Method := { name := "not", desc := "()Lsmalti/space/Condition$Truth;", sig := { parameters := [], returnType := some (.object "smalti/space/Condition$Truth") }, accessFlags := 0, code := some k6c1 }
/-- smalti/space/Condition$Truth -/
def k6 : Class := { plain "smalti/space/Condition$Truth" (some 5) with
  accessFlags := 16433
  interfaces := #[]
  cf := some (fileOf pool6 1 #[.nestHost 57] #[{ accessFlags := 8, nameIndex := 47, descriptorIndex := 48, attributes := #[] }, { accessFlags := 0, nameIndex := 50, descriptorIndex := 51, attributes := #[] }] 16433 23 #[] #[{ accessFlags := 16409, nameIndex := 5, descriptorIndex := 6, attributes := #[] }, { accessFlags := 16409, nameIndex := 9, descriptorIndex := 6, attributes := #[] }, { accessFlags := 16409, nameIndex := 12, descriptorIndex := 6, attributes := #[] }, { accessFlags := 4122, nameIndex := 15, descriptorIndex := 16, attributes := #[] }])
  fields := #[{ name := "TRUE", type := (.object "smalti/space/Condition$Truth"), accessFlags := 16409, slot := 0, constantValue := 0 }, { name := "FALSE", type := (.object "smalti/space/Condition$Truth"), accessFlags := 16409, slot := 1, constantValue := 0 }, { name := "UNKNOWN", type := (.object "smalti/space/Condition$Truth"), accessFlags := 16409, slot := 2, constantValue := 0 }, { name := "$VALUES", type := (.array (.object "smalti/space/Condition$Truth")), accessFlags := 4122, slot := 3, constantValue := 0 }]
  methods := #[k6m0, k6m1]
  instanceTypes := #[(.object "java/lang/String"), .int, .int]
  staticTypes := #[(.object "smalti/space/Condition$Truth"), (.object "smalti/space/Condition$Truth"), (.object "smalti/space/Condition$Truth"), (.array (.object "smalti/space/Condition$Truth"))]
  resolved := Array.replicate 61 none
  statics := some 0 }

def pool7 : Array CpInfo := pool [(1, u "java/lang/Cloneable"), (0, .class_ 1), (0, u "java/lang/Object"), (0, .class_ 3)] 3

/-- java/lang/Cloneable -/
def k7 : Class := { plain "java/lang/Cloneable" (some 0) with
  accessFlags := 1537
  interfaces := #[]
  cf := some (fileOf pool7 2 #[] #[] 1537 4 #[] #[])
  fields := #[]
  methods := #[]
  instanceTypes := #[]
  staticTypes := #[]
  resolved := Array.replicate 8 none
  statics := none }

/-- the primitive byte -/
def k8 : Class := { plain "byte" none with kind := .primitive 'B', accessFlags := 0x411 }
/-- [B -/
def k9 : Class := { plain "[B" (some 0) with kind := .array 8 .byte, interfaces := #[7, 4], accessFlags := 1041 }

/-- the primitive int -/
def k10 : Class := { plain "int" none with kind := .primitive 'I', accessFlags := 0x411 }
/-- [I -/
def k11 : Class := { plain "[I" (some 0) with kind := .array 10 .int, interfaces := #[7, 4], accessFlags := 1041 }

def heap : Heap := #[{ cls := 6, slots := #[.ref 1, .ref 2, .ref 3, .null], vm := .statics 6 },
  { cls := 6, slots := #[.null, .int 0, .int 0], vm := .none },
  { cls := 6, slots := #[.null, .int 1, .int 0], vm := .none },
  { cls := 6, slots := #[.null, .int 2, .int 0], vm := .none }]
def classes : Array Class := #[k0, k1, k2, k3, k4, k5, k6, k7, k8, k9, k10, k11]
def interned : List (Array UInt16 × Addr) := []
def slotsUsed : Nat := 13
def theMethod : MethodId := ⟨1, 1⟩
def args0 : Array Value := #[.int 5, .int 6]
def aboutOver (below : List Frame) : State where
  vm := { classes := classes, interned := interned.toArray }
  heap := heap
  slotsUsed := slotsUsed
  threads := #[{ frames := .invoking theMethod args0 :: below }]
def below0 : List Frame := [.native { method := ⟨0, 0⟩, args := #[] }]
def about1 : State := aboutOver below0
def p0 : Program := .bare "" "" ""
def e0 : Env := launch0.env 0 0 0
theorem w_frames : about1.frames = Frame.invoking theMethod args0 :: below0 := rfl
set_option maxRecDepth 65536 in
theorem w_args : argsFit about1.vm theMethod args0 = true := by decide +kernel
set_option maxRecDepth 65536 in
theorem w_heap : heapFits about1 = true := by decide +kernel
set_option maxRecDepth 65536 in
theorem w_runnable : about1.curStatus? = some .runnable := by decide +kernel
set_option maxRecDepth 65536 in
theorem w_alone : about1.alone = true := by decide +kernel
set_option maxRecDepth 65536 in
theorem w_named : about1.methodNamed? x = some theMethod := by decide +kernel
set_option maxRecDepth 65536 in
theorem w_hears : about1.hears theMethod below0 = true := by decide +kernel
set_option maxRecDepth 65536 in
theorem w_ripe : about1.ripe theMethod args0 below0 = true := by decide +kernel
theorem w_running : about1.status = .running := rfl
set_option maxRecDepth 65536 in
theorem w_room : about1.hasRoom e0.platform room_1 = true :=
  launch0.hasRoom_least _ room_1 (by decide +kernel) (by decide +kernel) (by decide +kernel) (by decide +kernel) (by decide +kernel) (by decide +kernel)
theorem allAtoms_all (ts : List Jvm.Cond) (a : Array Jvm.Value) (st : Jvm.State) : (allAtoms ts).before a st = ts.all (fun c => c.before a st) := by
  induction ts with
  | nil => rfl
  | cons c t ih =>
    show (Jvm.Cond.and c (allAtoms t)).before a st = _
    rw [Jvm.Cond.before_and, ih, List.all_cons]
def words1 : List Jvm.Cond := Jvm.Cond.code x code maxLocals ret :: tables_1
/-- a 'code' word, met by the world's own term for the bytes: nothing is compared byte by byte -/
theorem code_word {y : MethodName} {bytes : ByteArray} {mx : Nat} {rt : Option FieldType} {a : Array Value} {s : State} {m : MethodId} {meth : Method} {c : Code} (h1 : s.methodNamed? y = some m) (h2 : s.vm.method? m = some meth) (h3 : meth.code = some c) (h4 : c.code = bytes)
    (h5 : (c.maxLocals == mx && c.exceptionTable.isEmpty && decide (c.maxStack ≤ mostOperands) && decide (meth.sig.returnType = rt) && !meth.locks && decide (parseMethodDescriptor y.desc = some meth.sig)) = true) : (Jvm.Cond.code y bytes mx rt).before a s = true := by
  simp only [Bool.and_eq_true, beq_iff_eq, Bool.not_eq_true', decide_eq_true_eq] at h5
  obtain ⟨⟨⟨⟨⟨g1, g2⟩, g3⟩, g4⟩, g5⟩, g6⟩ := h5
  simp [Cond.before, Cond.holds, Cond.value, h1, h2, h3, h4, g1, g2, g3, g4, g5, g6]
def isCode : Jvm.Cond → Bool
  | .code _ _ _ _ => true
  | _ => false
theorem all_split {L : List Jvm.Cond} {P : Jvm.Cond → Bool} (h1 : L.all (fun c => isCode c || P c) = true) (h2 : ∀ c ∈ L.filter isCode, P c = true) : L.all P = true := by
  refine List.all_eq_true.mpr fun c hc => ?_
  have h := List.all_eq_true.mp h1 c hc
  rcases Bool.eq_false_or_eq_true (isCode c) with hi | hi
  · exact h2 c (List.mem_filter.mpr ⟨hc, hi⟩)
  · simpa [hi] using h
set_option maxRecDepth 65536 in
theorem w_c0 : (Jvm.Cond.code x code maxLocals ret).before args0 about1 = true := code_word (m := ⟨1, 1⟩) (meth := k1m1) (c := k1c1) (by decide +kernel) rfl rfl rfl (by decide +kernel)
set_option maxRecDepth 65536 in
theorem w_c1 : (Jvm.Cond.code ({ cls := "smalti/space/Condition$Truth", name := "not", desc := "()Lsmalti/space/Condition$Truth;" } : Jvm.MethodName) prog_80_method_5_code (1 : Nat) (Option.some (Jvm.ClassFile.FieldType.object "smalti/space/Condition$Truth"))).before args0 about1 = true := code_word (m := ⟨6, 1⟩) (meth := k6m1) (c := k6c1) (by decide +kernel) rfl rfl rfl (by decide +kernel)
set_option maxRecDepth 65536 in
theorem w_c2 : (Jvm.Cond.code ({ cls := "smalti/space/Condition$Truth", name := "of", desc := "(Z)Lsmalti/space/Condition$Truth;" } : Jvm.MethodName) prog_80_method_4_code (1 : Nat) (Option.some (Jvm.ClassFile.FieldType.object "smalti/space/Condition$Truth"))).before args0 about1 = true := code_word (m := ⟨6, 0⟩) (meth := k6m0) (c := k6c0) (by decide +kernel) rfl rfl rfl (by decide +kernel)
def codes1 : List Jvm.Cond := [Jvm.Cond.code x code maxLocals ret, Jvm.Cond.code ({ cls := "smalti/space/Condition$Truth", name := "not", desc := "()Lsmalti/space/Condition$Truth;" } : Jvm.MethodName) prog_80_method_5_code (1 : Nat) (Option.some (Jvm.ClassFile.FieldType.object "smalti/space/Condition$Truth")), Jvm.Cond.code ({ cls := "smalti/space/Condition$Truth", name := "of", desc := "(Z)Lsmalti/space/Condition$Truth;" } : Jvm.MethodName) prog_80_method_4_code (1 : Nat) (Option.some (Jvm.ClassFile.FieldType.object "smalti/space/Condition$Truth"))]
set_option maxRecDepth 65536 in
theorem codes_eq : words1.filter isCode = codes1 := rfl
theorem w_codes : ∀ c ∈ words1.filter isCode, c.before args0 about1 = true := by
  rw [codes_eq]
  intro c hc
  simp only [codes1, List.mem_cons, List.not_mem_nil, or_false] at hc
  rcases hc with rfl | rfl | rfl
  · exact w_c0
  · exact w_c1
  · exact w_c2
set_option maxRecDepth 65536 in
theorem w_t1 : words1.all (fun c => isCode c || c.before args0 about1) = true := by decide +kernel
theorem w_tables : (allAtoms (Jvm.Cond.code x code maxLocals ret :: tables_1)).before args0 about1 = true := by
  rw [allAtoms_all]
  show words1.all (fun c => c.before args0 about1) = true
  refine all_split ?_ w_codes
  rw [w_t1]
set_option maxRecDepth 65536 in
theorem w_case : (Jvm.Cond.and given_1 narrow_1).before args0 about1 = true := by decide +kernel
theorem w_applies : (headSpec (Jvm.Cond.code x code maxLocals ret :: tables_1) room_1).applies x e0.platform about1 = true :=
  (Spec.applies_iff w_frames).mpr ⟨w_running, w_runnable, w_alone, w_named, w_hears, w_ripe, w_room, w_tables⟩
theorem atStart : AtStart classFile x code maxLocals ret World_1 tables_1 room_1 Calls_1 rest_1 Pre_1 launch0 p0 e0 about1 theMethod args0 below0 :=
  ⟨lists_1, trivial, launch0.admits_env _ _ _, launch0.least_env, fairChoices_fair.cas, fairChoices_fair.clock, w_frames, w_args, w_heap, w_applies, trivial, trivial, w_case⟩
end start1
theorem witness_1 : WitnessClaimed_1 := ⟨start1.p0, start1.e0, start1.about1, start1.theMethod, start1.args0, start1.below0, start1.atStart⟩
end Jvm.Pilot.@@N@@
