import JvmDerived
import JvmDerived.Pilot.@@N@@Statement
import JvmDerived.Pilot.@@N@@Code
set_option linter.unusedVariables false
set_option linter.unusedSimpArgs false

namespace Jvm.Pilot.@@N@@
open Jvm Jvm.ClassFile Sem Op Lib Jvm.Free Jvm.Stand Jvm.LawKit Jvm.RoadKit Bundle Jvm.Pilot.@@N@@.Jvm.D


section OwnKit
variable {p : Program} {l : Launch} {e : Env} {R : Room} {s : State} {m : MethodId} {args : Array Value} {below : List Frame} {meth : Method} {c : Code} {T : State} {locs : List Loc} {cells slots : Nat} {h : Heap} {Q : Option Value → Heap → List Loc → Prop} {C S : Nat}
/-- from the state t the run comes to its end, and what it leaves answers Q -/
def own_Gl (p : Program) (e : Env) (below : List Frame) (s : State) (Q : Option Value → Heap → List Loc → Prop) (C S : Nat) (t : State) : Prop :=
  ∃ s₂ o, Steps p.tables e below t s₂ ∧ s₂.status = .running ∧ Ended s₂ below o ∧ ∃ v L, o = .returned v ∧ Q v s₂.heap L ∧ FrameEnd s o s₂ L C S
theorem own_st {t t' : State} (k : ∀ target, Steps p.tables e below t' target → Steps p.tables e below t target) (d : own_Gl p e below s Q C S t') : own_Gl p e below s Q C S t := by
  obtain ⟨s₂, o, h1, h2⟩ := d
  exact ⟨s₂, o, k _ h1, h2⟩
theorem own_tr {t t' : State} (k : Steps p.tables e below t t') (d : own_Gl p e below s Q C S t') : own_Gl p e below s Q C S t := own_st (fun _ h => k.trans h) d
theorem own_cast {g g' : JFrame} (q : g = g') (d : own_Gl p e below s Q C S (T.setTop g')) : own_Gl p e below s Q C S (T.setTop g) := q ▸ d
theorem own_ret (X : Stand p l e R s m args below meth c T locs cells slots) (hlk : meth.locks = false) {v : Option Value} {t : State} (hv : meth.sig.returnType = none → v = none) (eT : T.heap = h) (hq : Q v h locs) (hc : cells ≤ C) (hs : slots ≤ S)
    (k : ∀ fs, (∀ (f : JFrame) (acts : List Action), f.method = m → f.locked = none → f.entered = [] → (doReturn e (T.setTop f) acts v).1 = T.setFrames fs) → Steps p.tables e below t (T.setFrames fs)) : own_Gl p e below s Q C S t := by
  obtain ⟨fs, hr, hrun, hended, hW, hsame⟩ := X.leave hv hlk
  exact ⟨_, _, k fs hr, hrun, hended, v, locs, rfl, by show Q v T.heap locs; rw [eT]; exact hq, ⟨_, rfl⟩, hW, hsame.mono hc hs⟩
theorem own_retI (X : Stand p l e R s m args below meth c T locs cells slots) (hx : p.tables.exec = Jvm.exec) (hlk : meth.locks = false) {pc : Nat} {Ls : Array Slot} {z : Int32} {rest : List Value} (hret : meth.sig.returnType = some .int) (hd : decode c.code pc = .ok (.ireturn, 1)) (eT : T.heap = h) (hq : Q (some (.int z)) h locs) (hc : cells ≤ C) (hs : slots ≤ S) :
    own_Gl p e below s Q C S (T.setTop (mkF m pc Ls (.int z :: rest))) :=
  own_ret X hlk (fun q => by rw [hret] at q; cases q) eT hq hc hs (fun _ hr => retOut X hx hret rfl (Or.inl ⟨rfl, Or.inl rfl, _, rfl⟩) hd hr)
theorem own_retN (X : Stand p l e R s m args below meth c T locs cells slots) (hx : p.tables.exec = Jvm.exec) (hlk : meth.locks = false) {pc : Nat} {Ls : Array Slot} {z : Int32} {t : FieldType} {rest : List Value} (hret : meth.sig.returnType = some t) (ht : t = .boolean ∨ t = .byte ∨ t = .char ∨ t = .short) (hd : decode c.code pc = .ok (.ireturn, 1)) (eT : T.heap = h) (hq : Q (some (.int (nar t z))) h locs) (hc : cells ≤ C) (hs : slots ≤ S) :
    own_Gl p e below s Q C S (T.setTop (mkF m pc Ls (.int z :: rest))) :=
  own_ret X hlk (fun q => by rw [hret] at q; cases q) eT hq hc hs (fun _ hr => retN X hx hret ht hd hr)
theorem own_retJ (X : Stand p l e R s m args below meth c T locs cells slots) (hx : p.tables.exec = Jvm.exec) (hlk : meth.locks = false) {pc : Nat} {Ls : Array Slot} {z : Int64} {rest : List Value} (hret : meth.sig.returnType = some .long) (hd : decode c.code pc = .ok (.lreturn, 1)) (eT : T.heap = h) (hq : Q (some (.long z)) h locs) (hc : cells ≤ C) (hs : slots ≤ S) :
    own_Gl p e below s Q C S (T.setTop (mkF m pc Ls (.long z :: rest))) :=
  own_ret X hlk (fun q => by rw [hret] at q; cases q) eT hq hc hs (fun _ hr => retOut X hx hret rfl (Or.inr (Or.inl ⟨rfl, rfl, _, rfl⟩)) hd hr)
theorem own_retA (X : Stand p l e R s m args below meth c T locs cells slots) (hx : p.tables.exec = Jvm.exec) (hlk : meth.locks = false) {pc : Nat} {Ls : Array Slot} {w : Value} {t : FieldType} {rest : List Value} (hret : meth.sig.returnType = some t) (ht : t.isReference = true) (hw : w.isRef = true) (hn : narrow t w = w) (hd : decode c.code pc = .ok (.areturn, 1)) (eT : T.heap = h) (hq : Q (some w) h locs) (hc : cells ≤ C) (hs : slots ≤ S) :
    own_Gl p e below s Q C S (T.setTop (mkF m pc Ls (w :: rest))) :=
  own_ret X hlk (fun q => by rw [hret] at q; cases q) eT hq hc hs (fun _ hr => retOut X hx hret hn (Or.inr (Or.inr (Or.inr (Or.inr ⟨rfl, ht, hw⟩)))) hd hr)
theorem own_retV (X : Stand p l e R s m args below meth c T locs cells slots) (hx : p.tables.exec = Jvm.exec) (hlk : meth.locks = false) {pc : Nat} {Ls : Array Slot} (hret : meth.sig.returnType = none) (hd : decode c.code pc = .ok (.return_, 1)) (eT : T.heap = h) (hq : Q none h locs) (hc : cells ≤ C) (hs : slots ≤ S) :
    own_Gl p e below s Q C S (T.setTop (mkF m pc Ls [])) :=
  own_ret X hlk (fun _ => rfl) eT hq hc hs (fun _ hr => X.returnOut hx hret hd hr)
end OwnKit


theorem own_fld_start {args : Array Value} {s : State} {t : Term} {C n d : String} {a : Addr} {v : Int32} (ev : t.eval args s none [] s = some (.ref a)) (h : (Jvm.Cond.eq (.field t C n d) (.int v)).value args s none s [] = some true) : Fld s s.heap a C n d (.int v) := by
  obtain ⟨x, y, e1, e2, k1, k2⟩ := cmp_v (Or.inl h)
  obtain rfl : y = .int v := Option.some.inj (e2.symm.trans (Term.int_eval v))
  obtain ⟨z, rfl⟩ := k2
  have q := gotT (Cond.eq_ints e1 e2) h
  subst q
  exact Fld.start ((fld_at ev).symm.trans e1)


theorem own_and3 (x : Int32) : (x &&& (3 : Int32)) = (0 : Int32) ∨ (x &&& (3 : Int32)) = (1 : Int32) ∨ (x &&& (3 : Int32)) = (2 : Int32) ∨ (x &&& (3 : Int32)) = (3 : Int32) := by
  have h := c_mask x (3 : Int32) 2 (by decide) (by decide)
  have e0 : (0 : Int32).toInt = 0 := by decide
  have e1 : (1 : Int32).toInt = 1 := by decide
  have e2 : (2 : Int32).toInt = 2 := by decide
  have e3 : (3 : Int32).toInt = 3 := by decide
  simp only [← Int32.toInt_inj, e0, e1, e2, e3]
  omega

theorem own_d_prog_127_method_4_code_0 : decode prog_127_method_4_code 0 = .ok (.aload_n 0, 1) := by decide +kernel
theorem own_d_prog_127_method_4_code_1 : decode prog_127_method_4_code 1 = .ok (.getstatic 3, 3) := by decide +kernel
theorem own_d_prog_127_method_4_code_4 : decode prog_127_method_4_code 4 = .ok (.if_acmp .eq 10, 3) := by decide +kernel
theorem own_d_prog_127_method_4_code_14 : decode prog_127_method_4_code 14 = .ok (.iconst 1, 1) := by decide +kernel
theorem own_d_prog_127_method_4_code_15 : decode prog_127_method_4_code 15 = .ok (.goto 4, 3) := by decide +kernel
theorem own_d_prog_127_method_4_code_19 : decode prog_127_method_4_code 19 = .ok (.ireturn, 1) := by decide +kernel
theorem own_ef_own_cr_w (m : MethodId) (x0 : Addr) : entryFrame m #[(.ref x0)] 1 = mkF m 0 #[.val (.ref x0)] [] := by first | (simp [entryFrame, mkF, argsToLocals, Value.category]; done) | rfl
def own_Q_own_cr_w (Z : State) (sw : Addr) (sx : Addr) (h0 : Heap) (n0 : Nat) (v : Option Value) (h : Heap) (L : List Loc) : Prop := (v = some (.int (1 : Int32))) ∧ (Fr n0 L) ∧ (h = h0)
theorem own_pn387954868 : plainName "smalti/space/WriteModifier" = true := by first | (simp [plainName, overriddenIn]; done) | decide +kernel
set_option maxRecDepth 65536 in
set_option maxHeartbeats 40000000 in
theorem own_cr_w (l : Launch) (Z : State) (a0 : Array Value) (hw : ∀ d ∈ tables_1, d.before a0 Z = true) (ws : List Jvm.Cond) (sw : Addr) (sx : Addr) (h0 : Heap) (n0 : Nat) (Z0 : n0 ≤ h0.size) (S_WRITE_ONLY : Sta Z h0 "smalti/space/WriteModifier" "WRITE_ONLY" "Lsmalti/space/WriteModifier;" (.ref sw)) (S_UPDATE_OR_WRITE : Sta Z h0 "smalti/space/WriteModifier" "UPDATE_OR_WRITE" "Lsmalti/space/WriteModifier;" (.ref sx)) :
    MetFree l (⟨"smalti/space/WriteModifier", "creates", "()Z"⟩ : MethodName) (head1 (Jvm.Cond.code (⟨"smalti/space/WriteModifier", "creates", "()Z"⟩ : MethodName) prog_127_method_4_code 1 (some .boolean) :: ws) ({ frames := 0, cells := 0, slots := 0, locals := 0 } : Room)) (fun xa xU => xa = #[(.ref sw)] ∧ Z.Warmed39 xU.vm ∧ xU.heap = h0) (fun _ _ _ _ _ => True) (fun _ xU xo xV => ∃ v L, xo = .returned v ∧ own_Q_own_cr_w Z sw sx h0 n0 v xV.heap L ∧ FrameEnd xU xo xV L ({ frames := 0, cells := 0, slots := 0, locals := 0 } : Room).cells ({ frames := 0, cells := 0, slots := 0, locals := 0 } : Room).slots) := by
  refine MetFree.of_bodySF (plainFor_of_name own_pn387954868) hisR ?_
  intro p e s m args below meth c s₁ Bd hml0 hP hK
  obtain ⟨rfl, hZ, hh⟩ := hP
  have hx := Bd.exec
  have hby := Bd.bytes
  have hlk := Bd.notSynchronized
  have hret := Bd.returns
  have hml : c.maxLocals = 1 := hml0
  have hown : s.vm.findClass "smalti/space/WriteModifier" = some m.cls := findClass_of_methodNamed Bd.named
  have hnm := (name_of_methodNamed Bd.named Bd.method).1
  have X0 : Stand p l e ({ frames := 0, cells := 0, slots := 0, locals := 0 } : Room) s m #[(.ref sw)] below meth c s₁ [] 0 0 := Stand.of_body Bd
  have e0 : s₁.heap = h0 := by rw [← hh, Bd.state]; rfl
  have N0 := Fr.nil n0
  show own_Gl p e below s (own_Q_own_cr_w Z sw sx h0 n0) ({ frames := 0, cells := 0, slots := 0, locals := 0 } : Room).cells ({ frames := 0, cells := 0, slots := 0, locals := 0 } : Room).slots _
  refine own_cast (own_ef_own_cr_w m sw) ?_
  show own_Gl _ _ _ _ _ _ _ (s₁.setTop (mkF m 0 #[.val (.ref sw)] []))
  refine own_st (fun _ k => XS.aloadN X0.here hx rfl (hb hby own_d_prog_127_method_4_code_0) rfl rfl k) ?_
  show own_Gl _ _ _ _ _ _ _ (s₁.setTop (mkF m 1 #[.val (.ref sw)] [(.ref sw)]))
  obtain ⟨T1, X1, e1, st1⟩ := getS2 X0 hx hZ hown (host := "") (Or.inl (hw _ (List.mem_of_getElem? (i := 17) rfl))) Via.refl e0 S_WRITE_ONLY (g := (mkF m 1 #[.val (.ref sw)] [(.ref sw)])) rfl (hb hby own_d_prog_127_method_4_code_1)
  refine own_st st1 ?_
  show own_Gl _ _ _ _ _ _ _ (T1.setTop (mkF m 4 #[.val (.ref sw)] [(.ref sw), (.ref sw)]))
  refine own_st (fun _ k => Jvm.RoadKit.acmp (g := (mkF m 4 #[.val (.ref sw)] [(.ref sw), (.ref sw)])) X1 hx rfl rfl rfl (pc0 := 4) (pc' := 14) (same := true) rfl (hb hby own_d_prog_127_method_4_code_4) rfl (decide_eq_true rfl) (by decide) (by decide) k) ?_
  show own_Gl _ _ _ _ _ _ _ (T1.setTop (mkF m 14 #[.val (.ref sw)] []))
  refine own_st (fun _ k => XS.iconst X1.here hx rfl (hb hby own_d_prog_127_method_4_code_14) k) ?_
  show own_Gl _ _ _ _ _ _ _ (T1.setTop (mkF m 15 #[.val (.ref sw)] [(.int (1 : Int32))]))
  refine own_st (fun _ k => XS.goto X1.here hx rfl (pc0 := 15) (pc' := 19) rfl (hb hby own_d_prog_127_method_4_code_15) (by decide) (by decide) k) ?_
  show own_Gl _ _ _ _ _ _ _ (T1.setTop (mkF m 19 #[.val (.ref sw)] [(.int (1 : Int32))]))
  exact own_retN X1 hx hlk (t := .boolean) hret (by simp) (hb hby own_d_prog_127_method_4_code_19) e1 ⟨rfl, N0, rfl⟩ (by decide) (by decide)
theorem own_d_prog_127_method_4_code_7 : decode prog_127_method_4_code 7 = .ok (.aload_n 0, 1) := by decide +kernel
theorem own_d_prog_127_method_4_code_8 : decode prog_127_method_4_code 8 = .ok (.getstatic 10, 3) := by decide +kernel
theorem own_d_prog_127_method_4_code_11 : decode prog_127_method_4_code 11 = .ok (.if_acmp .ne 7, 3) := by decide +kernel
theorem own_ef_own_cr_x (m : MethodId) (x0 : Addr) : entryFrame m #[(.ref x0)] 1 = mkF m 0 #[.val (.ref x0)] [] := by first | (simp [entryFrame, mkF, argsToLocals, Value.category]; done) | rfl
def own_Q_own_cr_x (Z : State) (sw : Addr) (sx : Addr) (h0 : Heap) (n0 : Nat) (v : Option Value) (h : Heap) (L : List Loc) : Prop := (v = some (.int (1 : Int32))) ∧ (Fr n0 L) ∧ (h = h0)
set_option maxRecDepth 65536 in
set_option maxHeartbeats 40000000 in
theorem own_cr_x (l : Launch) (Z : State) (a0 : Array Value) (hw : ∀ d ∈ tables_1, d.before a0 Z = true) (ws : List Jvm.Cond) (sw : Addr) (sx : Addr) (h0 : Heap) (n0 : Nat) (Z0 : n0 ≤ h0.size) (S_WRITE_ONLY : Sta Z h0 "smalti/space/WriteModifier" "WRITE_ONLY" "Lsmalti/space/WriteModifier;" (.ref sw)) (S_UPDATE_OR_WRITE : Sta Z h0 "smalti/space/WriteModifier" "UPDATE_OR_WRITE" "Lsmalti/space/WriteModifier;" (.ref sx)) (ne_sw_sx : sw ≠ sx) :
    MetFree l (⟨"smalti/space/WriteModifier", "creates", "()Z"⟩ : MethodName) (head1 (Jvm.Cond.code (⟨"smalti/space/WriteModifier", "creates", "()Z"⟩ : MethodName) prog_127_method_4_code 1 (some .boolean) :: ws) ({ frames := 0, cells := 0, slots := 0, locals := 0 } : Room)) (fun xa xU => xa = #[(.ref sx)] ∧ Z.Warmed39 xU.vm ∧ xU.heap = h0) (fun _ _ _ _ _ => True) (fun _ xU xo xV => ∃ v L, xo = .returned v ∧ own_Q_own_cr_x Z sw sx h0 n0 v xV.heap L ∧ FrameEnd xU xo xV L ({ frames := 0, cells := 0, slots := 0, locals := 0 } : Room).cells ({ frames := 0, cells := 0, slots := 0, locals := 0 } : Room).slots) := by
  refine MetFree.of_bodySF (plainFor_of_name own_pn387954868) hisR ?_
  intro p e s m args below meth c s₁ Bd hml0 hP hK
  obtain ⟨rfl, hZ, hh⟩ := hP
  have hx := Bd.exec
  have hby := Bd.bytes
  have hlk := Bd.notSynchronized
  have hret := Bd.returns
  have hml : c.maxLocals = 1 := hml0
  have hown : s.vm.findClass "smalti/space/WriteModifier" = some m.cls := findClass_of_methodNamed Bd.named
  have hnm := (name_of_methodNamed Bd.named Bd.method).1
  have X0 : Stand p l e ({ frames := 0, cells := 0, slots := 0, locals := 0 } : Room) s m #[(.ref sx)] below meth c s₁ [] 0 0 := Stand.of_body Bd
  have e0 : s₁.heap = h0 := by rw [← hh, Bd.state]; rfl
  have N0 := Fr.nil n0
  show own_Gl p e below s (own_Q_own_cr_x Z sw sx h0 n0) ({ frames := 0, cells := 0, slots := 0, locals := 0 } : Room).cells ({ frames := 0, cells := 0, slots := 0, locals := 0 } : Room).slots _
  refine own_cast (own_ef_own_cr_x m sx) ?_
  show own_Gl _ _ _ _ _ _ _ (s₁.setTop (mkF m 0 #[.val (.ref sx)] []))
  refine own_st (fun _ k => XS.aloadN X0.here hx rfl (hb hby own_d_prog_127_method_4_code_0) rfl rfl k) ?_
  show own_Gl _ _ _ _ _ _ _ (s₁.setTop (mkF m 1 #[.val (.ref sx)] [(.ref sx)]))
  obtain ⟨T1, X1, e1, st1⟩ := getS2 X0 hx hZ hown (host := "") (Or.inl (hw _ (List.mem_of_getElem? (i := 17) rfl))) Via.refl e0 S_WRITE_ONLY (g := (mkF m 1 #[.val (.ref sx)] [(.ref sx)])) rfl (hb hby own_d_prog_127_method_4_code_1)
  refine own_st st1 ?_
  show own_Gl _ _ _ _ _ _ _ (T1.setTop (mkF m 4 #[.val (.ref sx)] [(.ref sw), (.ref sx)]))
  refine own_st (fun _ k => Jvm.RoadKit.acmp (g := (mkF m 4 #[.val (.ref sx)] [(.ref sw), (.ref sx)])) X1 hx rfl rfl rfl (pc0 := 4) (pc' := 7) (same := false) rfl (hb hby own_d_prog_127_method_4_code_4) rfl (decide_eq_false fun q => (Ne.symm ne_sw_sx) (Value.ref.inj q)) (by decide) (by decide) k) ?_
  show own_Gl _ _ _ _ _ _ _ (T1.setTop (mkF m 7 #[.val (.ref sx)] []))
  refine own_st (fun _ k => XS.aloadN X1.here hx rfl (hb hby own_d_prog_127_method_4_code_7) rfl rfl k) ?_
  show own_Gl _ _ _ _ _ _ _ (T1.setTop (mkF m 8 #[.val (.ref sx)] [(.ref sx)]))
  obtain ⟨T2, X2, e2, st2⟩ := getS2 X1 hx hZ hown (host := "") (Or.inl (hw _ (List.mem_of_getElem? (i := 18) rfl))) Via.refl e1 S_UPDATE_OR_WRITE (g := (mkF m 8 #[.val (.ref sx)] [(.ref sx)])) rfl (hb hby own_d_prog_127_method_4_code_8)
  refine own_st st2 ?_
  show own_Gl _ _ _ _ _ _ _ (T2.setTop (mkF m 11 #[.val (.ref sx)] [(.ref sx), (.ref sx)]))
  refine own_st (fun _ k => Jvm.RoadKit.acmp (g := (mkF m 11 #[.val (.ref sx)] [(.ref sx), (.ref sx)])) X2 hx rfl rfl rfl (pc0 := 11) (pc' := 14) (same := true) rfl (hb hby own_d_prog_127_method_4_code_11) rfl (decide_eq_true rfl) (by decide) (by decide) k) ?_
  show own_Gl _ _ _ _ _ _ _ (T2.setTop (mkF m 14 #[.val (.ref sx)] []))
  refine own_st (fun _ k => XS.iconst X2.here hx rfl (hb hby own_d_prog_127_method_4_code_14) k) ?_
  show own_Gl _ _ _ _ _ _ _ (T2.setTop (mkF m 15 #[.val (.ref sx)] [(.int (1 : Int32))]))
  refine own_st (fun _ k => XS.goto X2.here hx rfl (pc0 := 15) (pc' := 19) rfl (hb hby own_d_prog_127_method_4_code_15) (by decide) (by decide) k) ?_
  show own_Gl _ _ _ _ _ _ _ (T2.setTop (mkF m 19 #[.val (.ref sx)] [(.int (1 : Int32))]))
  exact own_retN X2 hx hlk (t := .boolean) hret (by simp) (hb hby own_d_prog_127_method_4_code_19) e2 ⟨rfl, N0, rfl⟩ (by decide) (by decide)
theorem own_d_prog_127_method_4_code_18 : decode prog_127_method_4_code 18 = .ok (.iconst 0, 1) := by decide +kernel
theorem own_ef_own_cr_o (m : MethodId) (x0 : Addr) : entryFrame m #[(.ref x0)] 1 = mkF m 0 #[.val (.ref x0)] [] := by first | (simp [entryFrame, mkF, argsToLocals, Value.category]; done) | rfl
def own_Q_own_cr_o (Z : State) (a : Addr) (sw : Addr) (sx : Addr) (h0 : Heap) (n0 : Nat) (v : Option Value) (h : Heap) (L : List Loc) : Prop := (v = some (.int (0 : Int32))) ∧ (Fr n0 L) ∧ (h = h0)
set_option maxRecDepth 65536 in
set_option maxHeartbeats 40000000 in
theorem own_cr_o (l : Launch) (Z : State) (a0 : Array Value) (hw : ∀ d ∈ tables_1, d.before a0 Z = true) (ws : List Jvm.Cond) (a : Addr) (sw : Addr) (sx : Addr) (h0 : Heap) (n0 : Nat) (Z0 : n0 ≤ h0.size) (S_WRITE_ONLY : Sta Z h0 "smalti/space/WriteModifier" "WRITE_ONLY" "Lsmalti/space/WriteModifier;" (.ref sw)) (S_UPDATE_OR_WRITE : Sta Z h0 "smalti/space/WriteModifier" "UPDATE_OR_WRITE" "Lsmalti/space/WriteModifier;" (.ref sx)) (ne_a_sw : a ≠ sw) (ne_a_sx : a ≠ sx) :
    MetFree l (⟨"smalti/space/WriteModifier", "creates", "()Z"⟩ : MethodName) (head1 (Jvm.Cond.code (⟨"smalti/space/WriteModifier", "creates", "()Z"⟩ : MethodName) prog_127_method_4_code 1 (some .boolean) :: ws) ({ frames := 0, cells := 0, slots := 0, locals := 0 } : Room)) (fun xa xU => xa = #[(.ref a)] ∧ Z.Warmed39 xU.vm ∧ xU.heap = h0) (fun _ _ _ _ _ => True) (fun _ xU xo xV => ∃ v L, xo = .returned v ∧ own_Q_own_cr_o Z a sw sx h0 n0 v xV.heap L ∧ FrameEnd xU xo xV L ({ frames := 0, cells := 0, slots := 0, locals := 0 } : Room).cells ({ frames := 0, cells := 0, slots := 0, locals := 0 } : Room).slots) := by
  refine MetFree.of_bodySF (plainFor_of_name own_pn387954868) hisR ?_
  intro p e s m args below meth c s₁ Bd hml0 hP hK
  obtain ⟨rfl, hZ, hh⟩ := hP
  have hx := Bd.exec
  have hby := Bd.bytes
  have hlk := Bd.notSynchronized
  have hret := Bd.returns
  have hml : c.maxLocals = 1 := hml0
  have hown : s.vm.findClass "smalti/space/WriteModifier" = some m.cls := findClass_of_methodNamed Bd.named
  have hnm := (name_of_methodNamed Bd.named Bd.method).1
  have X0 : Stand p l e ({ frames := 0, cells := 0, slots := 0, locals := 0 } : Room) s m #[(.ref a)] below meth c s₁ [] 0 0 := Stand.of_body Bd
  have e0 : s₁.heap = h0 := by rw [← hh, Bd.state]; rfl
  have N0 := Fr.nil n0
  show own_Gl p e below s (own_Q_own_cr_o Z a sw sx h0 n0) ({ frames := 0, cells := 0, slots := 0, locals := 0 } : Room).cells ({ frames := 0, cells := 0, slots := 0, locals := 0 } : Room).slots _
  refine own_cast (own_ef_own_cr_o m a) ?_
  show own_Gl _ _ _ _ _ _ _ (s₁.setTop (mkF m 0 #[.val (.ref a)] []))
  refine own_st (fun _ k => XS.aloadN X0.here hx rfl (hb hby own_d_prog_127_method_4_code_0) rfl rfl k) ?_
  show own_Gl _ _ _ _ _ _ _ (s₁.setTop (mkF m 1 #[.val (.ref a)] [(.ref a)]))
  obtain ⟨T1, X1, e1, st1⟩ := getS2 X0 hx hZ hown (host := "") (Or.inl (hw _ (List.mem_of_getElem? (i := 17) rfl))) Via.refl e0 S_WRITE_ONLY (g := (mkF m 1 #[.val (.ref a)] [(.ref a)])) rfl (hb hby own_d_prog_127_method_4_code_1)
  refine own_st st1 ?_
  show own_Gl _ _ _ _ _ _ _ (T1.setTop (mkF m 4 #[.val (.ref a)] [(.ref sw), (.ref a)]))
  refine own_st (fun _ k => Jvm.RoadKit.acmp (g := (mkF m 4 #[.val (.ref a)] [(.ref sw), (.ref a)])) X1 hx rfl rfl rfl (pc0 := 4) (pc' := 7) (same := false) rfl (hb hby own_d_prog_127_method_4_code_4) rfl (decide_eq_false fun q => ne_a_sw (Value.ref.inj q)) (by decide) (by decide) k) ?_
  show own_Gl _ _ _ _ _ _ _ (T1.setTop (mkF m 7 #[.val (.ref a)] []))
  refine own_st (fun _ k => XS.aloadN X1.here hx rfl (hb hby own_d_prog_127_method_4_code_7) rfl rfl k) ?_
  show own_Gl _ _ _ _ _ _ _ (T1.setTop (mkF m 8 #[.val (.ref a)] [(.ref a)]))
  obtain ⟨T2, X2, e2, st2⟩ := getS2 X1 hx hZ hown (host := "") (Or.inl (hw _ (List.mem_of_getElem? (i := 18) rfl))) Via.refl e1 S_UPDATE_OR_WRITE (g := (mkF m 8 #[.val (.ref a)] [(.ref a)])) rfl (hb hby own_d_prog_127_method_4_code_8)
  refine own_st st2 ?_
  show own_Gl _ _ _ _ _ _ _ (T2.setTop (mkF m 11 #[.val (.ref a)] [(.ref sx), (.ref a)]))
  refine own_st (fun _ k => Jvm.RoadKit.acmp (g := (mkF m 11 #[.val (.ref a)] [(.ref sx), (.ref a)])) X2 hx rfl rfl rfl (pc0 := 11) (pc' := 18) (same := false) rfl (hb hby own_d_prog_127_method_4_code_11) rfl (decide_eq_false fun q => ne_a_sx (Value.ref.inj q)) (by decide) (by decide) k) ?_
  show own_Gl _ _ _ _ _ _ _ (T2.setTop (mkF m 18 #[.val (.ref a)] []))
  refine own_st (fun _ k => XS.iconst X2.here hx rfl (hb hby own_d_prog_127_method_4_code_18) k) ?_
  show own_Gl _ _ _ _ _ _ _ (T2.setTop (mkF m 19 #[.val (.ref a)] [(.int (0 : Int32))]))
  exact own_retN X2 hx hlk (t := .boolean) hret (by simp) (hb hby own_d_prog_127_method_4_code_19) e2 ⟨rfl, N0, rfl⟩ (by decide) (by decide)
theorem own_pd691901 : parseMethodDescriptor "()Z" = some ⟨[], some .boolean⟩ := by decide +kernel
theorem own_ef_own_law (m : MethodId) (x0 : Int32) : entryFrame m #[(.int x0)] maxLocals = mkF m 0 #[.val (.int x0), .unset, .unset, .unset, .unset] [] := by first | (simp [entryFrame, mkF, argsToLocals, Value.category, maxLocals]; done) | rfl
def own_Q_own_law (Z : State) (p1 : Int32) (sw : Addr) (su : Addr) (sx : Addr) (sp : Addr) (h0 : Heap) (n0 : Nat) (v : Option Value) (h : Heap) (L : List Loc) : Prop := v = some (.int 1) ∧ Fr n0 L
theorem own_pn468472023 : plainName "smalti/space/WriteModifierCreatesPinLaw" = true := by first | (simp [plainName, overriddenIn]; done) | decide +kernel
set_option maxRecDepth 65536 in
set_option maxHeartbeats 40000000 in
theorem own_law (l : Launch) (Z : State) (a0 : Array Value) (hw : ∀ d ∈ tables_1, d.before a0 Z = true) (ws : List Jvm.Cond) (p1 : Int32) (sw : Addr) (su : Addr) (sx : Addr) (sp : Addr) (h0 : Heap) (n0 : Nat) (Z0 : n0 ≤ h0.size) (S_WRITE_ONLY : Sta Z h0 "smalti/space/WriteModifier" "WRITE_ONLY" "Lsmalti/space/WriteModifier;" (.ref sw)) (S_UPDATE_ONLY : Sta Z h0 "smalti/space/WriteModifier" "UPDATE_ONLY" "Lsmalti/space/WriteModifier;" (.ref su)) (S_UPDATE_OR_WRITE : Sta Z h0 "smalti/space/WriteModifier" "UPDATE_OR_WRITE" "Lsmalti/space/WriteModifier;" (.ref sx)) (S_PARTIAL_UPDATE : Sta Z h0 "smalti/space/WriteModifier" "PARTIAL_UPDATE" "Lsmalti/space/WriteModifier;" (.ref sp)) (E_sw : Exa Z h0 sw "smalti/space/WriteModifier") (E_su : Exa Z h0 su "smalti/space/WriteModifier") (E_sx : Exa Z h0 sx "smalti/space/WriteModifier") (E_sp : Exa Z h0 sp "smalti/space/WriteModifier") (ne_sw_su : sw ≠ su) (ne_sw_sx : sw ≠ sx) (ne_sw_sp : sw ≠ sp) (ne_su_sx : su ≠ sx) (ne_su_sp : su ≠ sp) (ne_sx_sp : sx ≠ sp) :
    MetFree l x (head1 (Jvm.Cond.code x code maxLocals ret :: ws) room_1) (fun xa xU => xa = #[(.int p1)] ∧ Z.Warmed39 xU.vm ∧ xU.heap = h0) (fun _ _ _ _ _ => True) (fun _ xU xo xV => ∃ v L, xo = .returned v ∧ own_Q_own_law Z p1 sw su sx sp h0 n0 v xV.heap L ∧ FrameEnd xU xo xV L room_1.cells room_1.slots) := by
  refine MetFree.of_bodySF (plainFor_of_name own_pn468472023) hisR ?_
  intro p e s m args below meth c s₁ Bd hml0 hP hK
  obtain ⟨rfl, hZ, hh⟩ := hP
  have hx := Bd.exec
  have hby := Bd.bytes
  have hlk := Bd.notSynchronized
  have hret := Bd.returns
  have hml : c.maxLocals = 5 := hml0
  have hown : s.vm.findClass "smalti/space/WriteModifierCreatesPinLaw" = some m.cls := findClass_of_methodNamed Bd.named
  have hnm := (name_of_methodNamed Bd.named Bd.method).1
  have X0 : Stand p l e room_1 s m #[(.int p1)] below meth c s₁ [] 0 0 := Stand.of_body Bd
  have e0 : s₁.heap = h0 := by rw [← hh, Bd.state]; rfl
  have N0 := Fr.nil n0
  show own_Gl p e below s (own_Q_own_law Z p1 sw su sx sp h0 n0) room_1.cells room_1.slots _
  refine own_cast (own_ef_own_law m p1) ?_
  show own_Gl _ _ _ _ _ _ _ (s₁.setTop (mkF m 0 #[.val (.int p1), .unset, .unset, .unset, .unset] []))
  refine own_st (fun _ k => XS.iconst X0.here hx rfl (hb hby at_0) k) ?_
  show own_Gl _ _ _ _ _ _ _ (s₁.setTop (mkF m 1 #[.val (.int p1), .unset, .unset, .unset, .unset] [(.int (4 : Int32))]))
  obtain ⟨T1, h1, k1, X1, e1, E1, A1, O1, st1⟩ := newR X0 hx hZ hown (hw _ (List.mem_of_getElem? (i := 0) rfl)) (hw _ (List.mem_of_getElem? (i := 1) rfl)) e0 (g := (mkF m 1 #[.val (.int p1), .unset, .unset, .unset, .unset] [(.int (4 : Int32))])) rfl (hb hby at_1) rfl (by decide) (cap := 4) (by decide) (by decide) (by decide) (by decide)
  obtain ⟨b1, gb1⟩ : ∃ z, z = h0.size := ⟨_, rfl⟩
  rw [← gb1] at A1 st1
  refine own_st st1 ?_
  have Zs2 : n0 ≤ h1.size := Nat.le_trans Z0 E1.1
  have g_b1 : n0 ≤ b1 := Nat.le_trans Z0 (Nat.le_of_eq gb1.symm)
  have gh_b1 : h0.size ≤ b1 := Nat.le_trans (Keep.refl h0 []).1 (Nat.le_of_eq gb1.symm)
  have ne_sw_b1 : sw ≠ b1 := Nat.ne_of_lt (Nat.lt_of_lt_of_le E_sw.lt (Nat.le_of_eq gb1.symm))
  have ne_su_b1 : su ≠ b1 := Nat.ne_of_lt (Nat.lt_of_lt_of_le E_su.lt (Nat.le_of_eq gb1.symm))
  have ne_sx_b1 : sx ≠ b1 := Nat.ne_of_lt (Nat.lt_of_lt_of_le E_sx.lt (Nat.le_of_eq gb1.symm))
  have ne_sp_b1 : sp ≠ b1 := Nat.ne_of_lt (Nat.lt_of_lt_of_le E_sp.lt (Nat.le_of_eq gb1.symm))
  have V_b1 : Arv Z h1 b1 k1 (.object "smalti/space/WriteModifier") (4 : Int32) [.null, .null, .null, .null] .null := (Arv.new A1 (by decide)).pad (pad_rep [] .null 4)
  show own_Gl _ _ _ _ _ _ _ (T1.setTop (mkF m 4 #[.val (.int p1), .unset, .unset, .unset, .unset] [(.ref b1)]))
  refine own_st (fun _ k => XS.dup X1.here hx rfl (hb hby at_4) rfl rfl k) ?_
  show own_Gl _ _ _ _ _ _ _ (T1.setTop (mkF m 5 #[.val (.int p1), .unset, .unset, .unset, .unset] [(.ref b1), (.ref b1)]))
  refine own_st (fun _ k => XS.iconst X1.here hx rfl (hb hby at_5) k) ?_
  show own_Gl _ _ _ _ _ _ _ (T1.setTop (mkF m 6 #[.val (.int p1), .unset, .unset, .unset, .unset] [(.int (0 : Int32)), (.ref b1), (.ref b1)]))
  have f5 := (S_WRITE_ONLY.ext E1)
  obtain ⟨T4, X4, e4, st4⟩ := getS2 X1 hx hZ hown (host := "") (Or.inl (hw _ (List.mem_of_getElem? (i := 2) rfl))) Via.refl e1 f5 (g := (mkF m 6 #[.val (.int p1), .unset, .unset, .unset, .unset] [(.int (0 : Int32)), (.ref b1), (.ref b1)])) rfl (hb hby at_6)
  refine own_st st4 ?_
  show own_Gl _ _ _ _ _ _ _ (T4.setTop (mkF m 9 #[.val (.int p1), .unset, .unset, .unset, .unset] [(.ref sw), (.int (0 : Int32)), (.ref b1), (.ref b1)]))
  obtain ⟨cl6, Ar6, qq6, Ss6, Nn6, Hh6, Gg6⟩ := id V_b1
  have hin6 : ¬ ((0 : Int32) < 0 ∨ cl6.slots.size ≤ ((0 : Int32)).toNatClampNeg) := inb_of Ss6 ⟨by decide, by decide⟩
  have f7 := (E_sw.ext E1)
  obtain ⟨T6, h6, X6, e6, W6, st6⟩ := stR X4 hx hZ e4 Ar6 (j := (0 : Int32)) hin6 rfl (Sto.ofV Ar6 qq6 O1 (Ins.self f7)) (g := (mkF m 9 #[.val (.int p1), .unset, .unset, .unset, .unset] [(.ref sw), (.int (0 : Int32)), (.ref b1), (.ref b1)])) rfl rfl (hb hby at_9)
  have N6 := Fr.snoc X6 N0 g_b1
  refine own_st st6 ?_
  have Zs8 : n0 ≤ h6.size := Nat.le_trans Zs2 (Keep.of_wr W6).1
  have Vw6 : Arv Z h6 b1 k1 (.object "smalti/space/WriteModifier") (4 : Int32) [(.ref sw), .null, .null, .null] .null := Arv.set Ar6 qq6 Ss6 Nn6 Hh6 Gg6 rfl W6 0 (rfl) (Nat.le_of_ble_eq_true rfl)
  show own_Gl _ _ _ _ _ _ _ (T6.setTop (mkF m 10 #[.val (.int p1), .unset, .unset, .unset, .unset] [(.ref b1)]))
  refine own_st (fun _ k => XS.dup X6.here hx rfl (hb hby at_10) rfl rfl k) ?_
  show own_Gl _ _ _ _ _ _ _ (T6.setTop (mkF m 11 #[.val (.int p1), .unset, .unset, .unset, .unset] [(.ref b1), (.ref b1)]))
  refine own_st (fun _ k => XS.iconst X6.here hx rfl (hb hby at_11) k) ?_
  show own_Gl _ _ _ _ _ _ _ (T6.setTop (mkF m 12 #[.val (.int p1), .unset, .unset, .unset, .unset] [(.int (1 : Int32)), (.ref b1), (.ref b1)]))
  have f10 := ((S_UPDATE_ONLY.ext E1).wr W6)
  obtain ⟨T9, X9, e9, st9⟩ := getS2 X6 hx hZ hown (host := "") (Or.inl (hw _ (List.mem_of_getElem? (i := 6) rfl))) Via.refl e6 f10 (g := (mkF m 12 #[.val (.int p1), .unset, .unset, .unset, .unset] [(.int (1 : Int32)), (.ref b1), (.ref b1)])) rfl (hb hby at_12)
  refine own_st st9 ?_
  show own_Gl _ _ _ _ _ _ _ (T9.setTop (mkF m 15 #[.val (.int p1), .unset, .unset, .unset, .unset] [(.ref su), (.int (1 : Int32)), (.ref b1), (.ref b1)]))
  obtain ⟨cl11, Ar11, qq11, Ss11, Nn11, Hh11, Gg11⟩ := id Vw6
  have hin11 : ¬ ((1 : Int32) < 0 ∨ cl11.slots.size ≤ ((1 : Int32)).toNatClampNeg) := inb_of Ss11 ⟨by decide, by decide⟩
  have f12 := ((E_su.ext E1).wr W6)
  obtain ⟨T11, h11, X11, e11, W11, st11⟩ := stR X9 hx hZ e9 Ar11 (j := (1 : Int32)) hin11 rfl (Sto.ofV Ar11 qq11 O1 (Ins.self f12)) (g := (mkF m 15 #[.val (.int p1), .unset, .unset, .unset, .unset] [(.ref su), (.int (1 : Int32)), (.ref b1), (.ref b1)])) rfl rfl (hb hby at_15)
  have N11 := Fr.snoc X11 N6 g_b1
  refine own_st st11 ?_
  have Zs13 : n0 ≤ h11.size := Nat.le_trans Zs8 (Keep.of_wr W11).1
  have Vw11 : Arv Z h11 b1 k1 (.object "smalti/space/WriteModifier") (4 : Int32) [(.ref sw), (.ref su), .null, .null] .null := Arv.set Ar11 qq11 Ss11 Nn11 Hh11 Gg11 rfl W11 1 (rfl) (Nat.le_of_ble_eq_true rfl)
  show own_Gl _ _ _ _ _ _ _ (T11.setTop (mkF m 16 #[.val (.int p1), .unset, .unset, .unset, .unset] [(.ref b1)]))
  refine own_st (fun _ k => XS.dup X11.here hx rfl (hb hby at_16) rfl rfl k) ?_
  show own_Gl _ _ _ _ _ _ _ (T11.setTop (mkF m 17 #[.val (.int p1), .unset, .unset, .unset, .unset] [(.ref b1), (.ref b1)]))
  refine own_st (fun _ k => XS.iconst X11.here hx rfl (hb hby at_17) k) ?_
  show own_Gl _ _ _ _ _ _ _ (T11.setTop (mkF m 18 #[.val (.int p1), .unset, .unset, .unset, .unset] [(.int (2 : Int32)), (.ref b1), (.ref b1)]))
  have f15 := (((S_UPDATE_OR_WRITE.ext E1).wr W6).wr W11)
  obtain ⟨T14, X14, e14, st14⟩ := getS2 X11 hx hZ hown (host := "") (Or.inl (hw _ (List.mem_of_getElem? (i := 8) rfl))) Via.refl e11 f15 (g := (mkF m 18 #[.val (.int p1), .unset, .unset, .unset, .unset] [(.int (2 : Int32)), (.ref b1), (.ref b1)])) rfl (hb hby at_18)
  refine own_st st14 ?_
  show own_Gl _ _ _ _ _ _ _ (T14.setTop (mkF m 21 #[.val (.int p1), .unset, .unset, .unset, .unset] [(.ref sx), (.int (2 : Int32)), (.ref b1), (.ref b1)]))
  obtain ⟨cl16, Ar16, qq16, Ss16, Nn16, Hh16, Gg16⟩ := id Vw11
  have hin16 : ¬ ((2 : Int32) < 0 ∨ cl16.slots.size ≤ ((2 : Int32)).toNatClampNeg) := inb_of Ss16 ⟨by decide, by decide⟩
  have f17 := (((E_sx.ext E1).wr W6).wr W11)
  obtain ⟨T16, h16, X16, e16, W16, st16⟩ := stR X14 hx hZ e14 Ar16 (j := (2 : Int32)) hin16 rfl (Sto.ofV Ar16 qq16 O1 (Ins.self f17)) (g := (mkF m 21 #[.val (.int p1), .unset, .unset, .unset, .unset] [(.ref sx), (.int (2 : Int32)), (.ref b1), (.ref b1)])) rfl rfl (hb hby at_21)
  have N16 := Fr.snoc X16 N11 g_b1
  refine own_st st16 ?_
  have Zs18 : n0 ≤ h16.size := Nat.le_trans Zs13 (Keep.of_wr W16).1
  have Vw16 : Arv Z h16 b1 k1 (.object "smalti/space/WriteModifier") (4 : Int32) [(.ref sw), (.ref su), (.ref sx), .null] .null := Arv.set Ar16 qq16 Ss16 Nn16 Hh16 Gg16 rfl W16 2 (rfl) (Nat.le_of_ble_eq_true rfl)
  show own_Gl _ _ _ _ _ _ _ (T16.setTop (mkF m 22 #[.val (.int p1), .unset, .unset, .unset, .unset] [(.ref b1)]))
  refine own_st (fun _ k => XS.dup X16.here hx rfl (hb hby at_22) rfl rfl k) ?_
  show own_Gl _ _ _ _ _ _ _ (T16.setTop (mkF m 23 #[.val (.int p1), .unset, .unset, .unset, .unset] [(.ref b1), (.ref b1)]))
  refine own_st (fun _ k => XS.iconst X16.here hx rfl (hb hby at_23) k) ?_
  show own_Gl _ _ _ _ _ _ _ (T16.setTop (mkF m 24 #[.val (.int p1), .unset, .unset, .unset, .unset] [(.int (3 : Int32)), (.ref b1), (.ref b1)]))
  have f20 := ((((S_PARTIAL_UPDATE.ext E1).wr W6).wr W11).wr W16)
  obtain ⟨T19, X19, e19, st19⟩ := getS2 X16 hx hZ hown (host := "") (Or.inl (hw _ (List.mem_of_getElem? (i := 10) rfl))) Via.refl e16 f20 (g := (mkF m 24 #[.val (.int p1), .unset, .unset, .unset, .unset] [(.int (3 : Int32)), (.ref b1), (.ref b1)])) rfl (hb hby at_24)
  refine own_st st19 ?_
  show own_Gl _ _ _ _ _ _ _ (T19.setTop (mkF m 27 #[.val (.int p1), .unset, .unset, .unset, .unset] [(.ref sp), (.int (3 : Int32)), (.ref b1), (.ref b1)]))
  obtain ⟨cl21, Ar21, qq21, Ss21, Nn21, Hh21, Gg21⟩ := id Vw16
  have hin21 : ¬ ((3 : Int32) < 0 ∨ cl21.slots.size ≤ ((3 : Int32)).toNatClampNeg) := inb_of Ss21 ⟨by decide, by decide⟩
  have f22 := ((((E_sp.ext E1).wr W6).wr W11).wr W16)
  obtain ⟨T21, h21, X21, e21, W21, st21⟩ := stR X19 hx hZ e19 Ar21 (j := (3 : Int32)) hin21 rfl (Sto.ofV Ar21 qq21 O1 (Ins.self f22)) (g := (mkF m 27 #[.val (.int p1), .unset, .unset, .unset, .unset] [(.ref sp), (.int (3 : Int32)), (.ref b1), (.ref b1)])) rfl rfl (hb hby at_27)
  have N21 := Fr.snoc X21 N16 g_b1
  refine own_st st21 ?_
  have Zs23 : n0 ≤ h21.size := Nat.le_trans Zs18 (Keep.of_wr W21).1
  have Vw21 : Arv Z h21 b1 k1 (.object "smalti/space/WriteModifier") (4 : Int32) [(.ref sw), (.ref su), (.ref sx), (.ref sp)] .null := Arv.set Ar21 qq21 Ss21 Nn21 Hh21 Gg21 rfl W21 3 (rfl) (Nat.le_of_ble_eq_true rfl)
  show own_Gl _ _ _ _ _ _ _ (T21.setTop (mkF m 28 #[.val (.int p1), .unset, .unset, .unset, .unset] [(.ref b1)]))
  refine own_st (fun _ k => XS.astoreN X21.here hx rfl (hb hby at_28) rfl rfl (l' := #[.val (.int p1), .val (.ref b1), .unset, .unset, .unset]) rfl k) ?_
  show own_Gl _ _ _ _ _ _ _ (T21.setTop (mkF m 29 #[.val (.int p1), .val (.ref b1), .unset, .unset, .unset] []))
  refine own_st (fun _ k => XS.iloadN X21.here hx rfl (hb hby at_29) rfl k) ?_
  show own_Gl _ _ _ _ _ _ _ (T21.setTop (mkF m 30 #[.val (.int p1), .val (.ref b1), .unset, .unset, .unset] [(.int p1)]))
  refine own_st (fun _ k => XS.iconst X21.here hx rfl (hb hby at_30) k) ?_
  show own_Gl _ _ _ _ _ _ _ (T21.setTop (mkF m 31 #[.val (.int p1), .val (.ref b1), .unset, .unset, .unset] [(.int (3 : Int32)), (.int p1)]))
  refine own_st (fun _ k => XS.iand X21.here hx rfl (hb hby at_31) rfl k) ?_
  show own_Gl _ _ _ _ _ _ _ (T21.setTop (mkF m 32 #[.val (.int p1), .val (.ref b1), .unset, .unset, .unset] [(.int (p1 &&& (3 : Int32)))]))
  refine own_st (fun _ k => XS.istoreN X21.here hx rfl (hb hby at_32) rfl (l' := #[.val (.int p1), .val (.ref b1), .val (.int (p1 &&& (3 : Int32))), .unset, .unset]) rfl k) ?_
  show own_Gl _ _ _ _ _ _ _ (T21.setTop (mkF m 33 #[.val (.int p1), .val (.ref b1), .val (.int (p1 &&& (3 : Int32))), .unset, .unset] []))
  rcases own_and3 p1 with hk | hk | hk | hk
  · rw [hk]
    show own_Gl _ _ _ _ _ _ _ (T21.setTop (mkF m 33 #[.val (.int p1), .val (.ref b1), .val (.int (0 : Int32)), .unset, .unset] []))
    refine own_st (fun _ k => XS.aloadN X21.here hx rfl (hb hby at_33) rfl rfl k) ?_
    show own_Gl _ _ _ _ _ _ _ (T21.setTop (mkF m 34 #[.val (.int p1), .val (.ref b1), .val (.int (0 : Int32)), .unset, .unset] [(.ref b1)]))
    refine own_st (fun _ k => XS.iloadN X21.here hx rfl (hb hby at_34) rfl k) ?_
    show own_Gl _ _ _ _ _ _ _ (T21.setTop (mkF m 35 #[.val (.int p1), .val (.ref b1), .val (.int (0 : Int32)), .unset, .unset] [(.int (0 : Int32)), (.ref b1)]))
    obtain ⟨cl24, Ar24, qq24, Ss24, Nn24, Hh24, Gg24⟩ := id Vw21
    have hin24 : ¬ ((0 : Int32) < 0 ∨ cl24.slots.size ≤ ((0 : Int32)).toNatClampNeg) := inb_of Ss24 ⟨by decide, by decide⟩
    have hat24 : cl24.slots[((0 : Int32)).toNatClampNeg]? = some (.ref sw) := Hh24.at hin24 (rfl)
    refine own_st (X21.aaload hx (j := (0 : Int32)) (v := (.ref sw)) (by rw [e21]; exact Ar24.1) (State.isArrayOf_alike hZ.alike Ar24.2.1) rfl Ar24.2.2 hin24 hat24 (g := (mkF m 35 #[.val (.int p1), .val (.ref b1), .val (.int (0 : Int32)), .unset, .unset] [(.int (0 : Int32)), (.ref b1)])) rfl rfl (hb hby at_35)) ?_
    show own_Gl _ _ _ _ _ _ _ (T21.setTop (mkF m 36 #[.val (.int p1), .val (.ref b1), .val (.int (0 : Int32)), .unset, .unset] [(.ref sw)]))
    refine own_st (fun _ k => XS.astoreN X21.here hx rfl (hb hby at_36) rfl rfl (l' := #[.val (.int p1), .val (.ref b1), .val (.int (0 : Int32)), .val (.ref sw), .unset]) rfl k) ?_
    show own_Gl _ _ _ _ _ _ _ (T21.setTop (mkF m 37 #[.val (.int p1), .val (.ref b1), .val (.int (0 : Int32)), .val (.ref sw), .unset] []))
    refine own_st (fun _ k => XS.iloadN X21.here hx rfl (hb hby at_37) rfl k) ?_
    show own_Gl _ _ _ _ _ _ _ (T21.setTop (mkF m 38 #[.val (.int p1), .val (.ref b1), .val (.int (0 : Int32)), .val (.ref sw), .unset] [(.int (0 : Int32))]))
    have hd25 : (0 : Int32) = (0 : Int32) := (by decide)
    refine own_st (fun _ k => XS.ifNo X21.here hx rfl (hb hby at_38) rfl ((if0 _ _).trans (teq hd25).2) k) ?_
    show own_Gl _ _ _ _ _ _ _ (T21.setTop (mkF m 41 #[.val (.int p1), .val (.ref b1), .val (.int (0 : Int32)), .val (.ref sw), .unset] []))
    refine own_st (fun _ k => XS.iconst X21.here hx rfl (hb hby at_41) k) ?_
    show own_Gl _ _ _ _ _ _ _ (T21.setTop (mkF m 42 #[.val (.int p1), .val (.ref b1), .val (.int (0 : Int32)), .val (.ref sw), .unset] [(.int (1 : Int32))]))
    refine own_st (fun _ k => XS.istore X21.here hx rfl (hb hby at_42) rfl (l' := #[.val (.int p1), .val (.ref b1), .val (.int (0 : Int32)), .val (.ref sw), .val (.int (1 : Int32))]) rfl k) ?_
    show own_Gl _ _ _ _ _ _ _ (T21.setTop (mkF m 44 #[.val (.int p1), .val (.ref b1), .val (.int (0 : Int32)), .val (.ref sw), .val (.int (1 : Int32))] []))
    refine own_st (fun _ k => XS.goto X21.here hx rfl (pc0 := 44) (pc' := 72) rfl (hb hby at_44) (by decide) (by decide) k) ?_
    show own_Gl _ _ _ _ _ _ _ (T21.setTop (mkF m 72 #[.val (.int p1), .val (.ref b1), .val (.int (0 : Int32)), .val (.ref sw), .val (.int (1 : Int32))] []))
    refine own_st (fun _ k => XS.aloadN X21.here hx rfl (hb hby at_72) rfl rfl k) ?_
    show own_Gl _ _ _ _ _ _ _ (T21.setTop (mkF m 73 #[.val (.int p1), .val (.ref b1), .val (.int (0 : Int32)), .val (.ref sw), .val (.int (1 : Int32))] [(.ref sw)]))
    have f27 := ((((f5.wr W6).wr W11).wr W16).wr W21)
    have f28 := ((f15.wr W16).wr W21)
    have f29 := ((((f7.wr W6).wr W11).wr W16).wr W21)
    have f30 := (((f12.wr W11).wr W16).wr W21)
    have f31 := ((f17.wr W16).wr W21)
    have f32 := (f22.wr W21)
    obtain ⟨cq26, kq26, q26a, q26b, q26c⟩ := isOf hZ e21 f29
    obtain ⟨_, _, ⟨T26, L26, k26, n26⟩, -, X26, ⟨Lc26, hQ26, l26, y26, z26⟩, st26⟩ := X21.virtualBack hx (y := (⟨"smalti/space/WriteModifier", "creates", "()Z"⟩ : MethodName)) (z := (⟨"smalti/space/WriteModifier", "creates", "()Z"⟩ : MethodName)) hown (mvT hZ (hw _ (List.mem_of_getElem? (i := 12) rfl))) (mvT hZ (hw _ (List.mem_of_getElem? (i := 13) rfl))) (notFace_of_selects (args := #[]) (mvT hZ (hw _ (List.mem_of_getElem? (i := 15) rfl)))) (mvT hZ (hw _ (List.mem_of_getElem? (i := 15) rfl))) (mvT hZ (hw _ (List.mem_of_getElem? (i := 14) rfl))) (by decide) (backOf (W := 0) (own_cr_w l Z a0 hw [] sw sx h21 n0 Zs23 f27 f28) hZ (hw _ (List.mem_of_getElem? (i := 16) rfl)) (hw _ (List.mem_of_getElem? (i := 3) rfl)) (by decide) (by decide)) q26a q26c (g := (mkF m 73 #[.val (.int p1), .val (.ref b1), .val (.int (0 : Int32)), .val (.ref sw), .val (.int (1 : Int32))] [(.ref sw)])) rfl (by rw [hml]; rfl) (Steps.refl _) (argsL := []) (rest := []) (lenOf own_pd691901 rfl) rfl (by show 2 * 0 + _ ≤ _; exact Nat.le_of_eq rfl) (hb hby at_73) (fun _ _ => ⟨rfl, e21, (by decide : 1 + 0 ≤ room_1.cells), (by decide : 4 + 0 ≤ room_1.slots)⟩)
    dsimp only [Pt.U, Pt.locs, Pt.cells, Pt.slots] at X26 l26 y26 z26 st26 hQ26
    subst l26 y26 z26
    obtain ⟨hh26, eh026⟩ : ∃ z, T26.heap = z := ⟨_, rfl⟩
    rw [eh026] at hQ26
    obtain ⟨rfl, Nq26, eh26⟩ := hQ26
    have N26 := Fr.app N21 Nq26
    refine own_tr st26 ?_
    have e26 : T26.heap = h21 := eh026.trans eh26
    show own_Gl _ _ _ _ _ _ _ (T26.setTop (mkF m 76 #[.val (.int p1), .val (.ref b1), .val (.int (0 : Int32)), .val (.ref sw), .val (.int (1 : Int32))] [(.int (1 : Int32))]))
    refine own_st (fun _ k => XS.iload X26.here hx rfl (hb hby at_76) rfl k) ?_
    show own_Gl _ _ _ _ _ _ _ (T26.setTop (mkF m 78 #[.val (.int p1), .val (.ref b1), .val (.int (0 : Int32)), .val (.ref sw), .val (.int (1 : Int32))] [(.int (1 : Int32)), (.int (1 : Int32))]))
    have hd33 : (1 : Int32) = (1 : Int32) := (by decide)
    refine own_st (fun _ k => XS.icmpNo X26.here hx rfl (hb hby at_78) rfl (teq hd33).2 k) ?_
    show own_Gl _ _ _ _ _ _ _ (T26.setTop (mkF m 81 #[.val (.int p1), .val (.ref b1), .val (.int (0 : Int32)), .val (.ref sw), .val (.int (1 : Int32))] []))
    refine own_st (fun _ k => XS.iconst X26.here hx rfl (hb hby at_81) k) ?_
    show own_Gl _ _ _ _ _ _ _ (T26.setTop (mkF m 82 #[.val (.int p1), .val (.ref b1), .val (.int (0 : Int32)), .val (.ref sw), .val (.int (1 : Int32))] [(.int (1 : Int32))]))
    refine own_st (fun _ k => XS.goto X26.here hx rfl (pc0 := 82) (pc' := 86) rfl (hb hby at_82) (by decide) (by decide) k) ?_
    show own_Gl _ _ _ _ _ _ _ (T26.setTop (mkF m 86 #[.val (.int p1), .val (.ref b1), .val (.int (0 : Int32)), .val (.ref sw), .val (.int (1 : Int32))] [(.int (1 : Int32))]))
    exact own_retN X26 hx hlk (t := .boolean) hret (by simp) (hb hby at_86) e26 ⟨rfl, N26⟩ (by decide) (by decide)
  · rw [hk]
    show own_Gl _ _ _ _ _ _ _ (T21.setTop (mkF m 33 #[.val (.int p1), .val (.ref b1), .val (.int (1 : Int32)), .unset, .unset] []))
    refine own_st (fun _ k => XS.aloadN X21.here hx rfl (hb hby at_33) rfl rfl k) ?_
    show own_Gl _ _ _ _ _ _ _ (T21.setTop (mkF m 34 #[.val (.int p1), .val (.ref b1), .val (.int (1 : Int32)), .unset, .unset] [(.ref b1)]))
    refine own_st (fun _ k => XS.iloadN X21.here hx rfl (hb hby at_34) rfl k) ?_
    show own_Gl _ _ _ _ _ _ _ (T21.setTop (mkF m 35 #[.val (.int p1), .val (.ref b1), .val (.int (1 : Int32)), .unset, .unset] [(.int (1 : Int32)), (.ref b1)]))
    obtain ⟨cl34, Ar34, qq34, Ss34, Nn34, Hh34, Gg34⟩ := id Vw21
    have hin34 : ¬ ((1 : Int32) < 0 ∨ cl34.slots.size ≤ ((1 : Int32)).toNatClampNeg) := inb_of Ss34 ⟨by decide, by decide⟩
    have hat34 : cl34.slots[((1 : Int32)).toNatClampNeg]? = some (.ref su) := Hh34.at hin34 (rfl)
    refine own_st (X21.aaload hx (j := (1 : Int32)) (v := (.ref su)) (by rw [e21]; exact Ar34.1) (State.isArrayOf_alike hZ.alike Ar34.2.1) rfl Ar34.2.2 hin34 hat34 (g := (mkF m 35 #[.val (.int p1), .val (.ref b1), .val (.int (1 : Int32)), .unset, .unset] [(.int (1 : Int32)), (.ref b1)])) rfl rfl (hb hby at_35)) ?_
    show own_Gl _ _ _ _ _ _ _ (T21.setTop (mkF m 36 #[.val (.int p1), .val (.ref b1), .val (.int (1 : Int32)), .unset, .unset] [(.ref su)]))
    refine own_st (fun _ k => XS.astoreN X21.here hx rfl (hb hby at_36) rfl rfl (l' := #[.val (.int p1), .val (.ref b1), .val (.int (1 : Int32)), .val (.ref su), .unset]) rfl k) ?_
    show own_Gl _ _ _ _ _ _ _ (T21.setTop (mkF m 37 #[.val (.int p1), .val (.ref b1), .val (.int (1 : Int32)), .val (.ref su), .unset] []))
    refine own_st (fun _ k => XS.iloadN X21.here hx rfl (hb hby at_37) rfl k) ?_
    show own_Gl _ _ _ _ _ _ _ (T21.setTop (mkF m 38 #[.val (.int p1), .val (.ref b1), .val (.int (1 : Int32)), .val (.ref su), .unset] [(.int (1 : Int32))]))
    have hd35 : ¬ ((1 : Int32) = (0 : Int32)) := (by decide)
    refine own_st (fun _ k => XS.ifYes X21.here hx rfl (pc0 := 38) (pc' := 47) rfl (hb hby at_38) rfl ((if0 _ _).trans (feq hd35).2) (by decide) (by decide) k) ?_
    show own_Gl _ _ _ _ _ _ _ (T21.setTop (mkF m 47 #[.val (.int p1), .val (.ref b1), .val (.int (1 : Int32)), .val (.ref su), .unset] []))
    refine own_st (fun _ k => XS.iloadN X21.here hx rfl (hb hby at_47) rfl k) ?_
    show own_Gl _ _ _ _ _ _ _ (T21.setTop (mkF m 48 #[.val (.int p1), .val (.ref b1), .val (.int (1 : Int32)), .val (.ref su), .unset] [(.int (1 : Int32))]))
    refine own_st (fun _ k => XS.iconst X21.here hx rfl (hb hby at_48) k) ?_
    show own_Gl _ _ _ _ _ _ _ (T21.setTop (mkF m 49 #[.val (.int p1), .val (.ref b1), .val (.int (1 : Int32)), .val (.ref su), .unset] [(.int (1 : Int32)), (.int (1 : Int32))]))
    have hd36 : (1 : Int32) = (1 : Int32) := (by decide)
    refine own_st (fun _ k => XS.icmpNo X21.here hx rfl (hb hby at_49) rfl (teq hd36).2 k) ?_
    show own_Gl _ _ _ _ _ _ _ (T21.setTop (mkF m 52 #[.val (.int p1), .val (.ref b1), .val (.int (1 : Int32)), .val (.ref su), .unset] []))
    refine own_st (fun _ k => XS.iconst X21.here hx rfl (hb hby at_52) k) ?_
    show own_Gl _ _ _ _ _ _ _ (T21.setTop (mkF m 53 #[.val (.int p1), .val (.ref b1), .val (.int (1 : Int32)), .val (.ref su), .unset] [(.int (0 : Int32))]))
    refine own_st (fun _ k => XS.istore X21.here hx rfl (hb hby at_53) rfl (l' := #[.val (.int p1), .val (.ref b1), .val (.int (1 : Int32)), .val (.ref su), .val (.int (0 : Int32))]) rfl k) ?_
    show own_Gl _ _ _ _ _ _ _ (T21.setTop (mkF m 55 #[.val (.int p1), .val (.ref b1), .val (.int (1 : Int32)), .val (.ref su), .val (.int (0 : Int32))] []))
    refine own_st (fun _ k => XS.goto X21.here hx rfl (pc0 := 55) (pc' := 72) rfl (hb hby at_55) (by decide) (by decide) k) ?_
    show own_Gl _ _ _ _ _ _ _ (T21.setTop (mkF m 72 #[.val (.int p1), .val (.ref b1), .val (.int (1 : Int32)), .val (.ref su), .val (.int (0 : Int32))] []))
    refine own_st (fun _ k => XS.aloadN X21.here hx rfl (hb hby at_72) rfl rfl k) ?_
    show own_Gl _ _ _ _ _ _ _ (T21.setTop (mkF m 73 #[.val (.int p1), .val (.ref b1), .val (.int (1 : Int32)), .val (.ref su), .val (.int (0 : Int32))] [(.ref su)]))
    have f38 := ((((f5.wr W6).wr W11).wr W16).wr W21)
    have f39 := ((f15.wr W16).wr W21)
    have f40 := ((((f7.wr W6).wr W11).wr W16).wr W21)
    have f41 := (((f12.wr W11).wr W16).wr W21)
    have f42 := ((f17.wr W16).wr W21)
    have f43 := (f22.wr W21)
    obtain ⟨cq37, kq37, q37a, q37b, q37c⟩ := isOf hZ e21 f41
    obtain ⟨_, _, ⟨T37, L37, k37, n37⟩, -, X37, ⟨Lc37, hQ37, l37, y37, z37⟩, st37⟩ := X21.virtualBack hx (y := (⟨"smalti/space/WriteModifier", "creates", "()Z"⟩ : MethodName)) (z := (⟨"smalti/space/WriteModifier", "creates", "()Z"⟩ : MethodName)) hown (mvT hZ (hw _ (List.mem_of_getElem? (i := 12) rfl))) (mvT hZ (hw _ (List.mem_of_getElem? (i := 13) rfl))) (notFace_of_selects (args := #[]) (mvT hZ (hw _ (List.mem_of_getElem? (i := 15) rfl)))) (mvT hZ (hw _ (List.mem_of_getElem? (i := 15) rfl))) (mvT hZ (hw _ (List.mem_of_getElem? (i := 14) rfl))) (by decide) (backOf (W := 0) (own_cr_o l Z a0 hw [] su sw sx h21 n0 Zs23 f38 f39 (Ne.symm ne_sw_su) ne_su_sx) hZ (hw _ (List.mem_of_getElem? (i := 16) rfl)) (hw _ (List.mem_of_getElem? (i := 3) rfl)) (by decide) (by decide)) q37a q37c (g := (mkF m 73 #[.val (.int p1), .val (.ref b1), .val (.int (1 : Int32)), .val (.ref su), .val (.int (0 : Int32))] [(.ref su)])) rfl (by rw [hml]; rfl) (Steps.refl _) (argsL := []) (rest := []) (lenOf own_pd691901 rfl) rfl (by show 2 * 0 + _ ≤ _; exact Nat.le_of_eq rfl) (hb hby at_73) (fun _ _ => ⟨rfl, e21, (by decide : 1 + 0 ≤ room_1.cells), (by decide : 4 + 0 ≤ room_1.slots)⟩)
    dsimp only [Pt.U, Pt.locs, Pt.cells, Pt.slots] at X37 l37 y37 z37 st37 hQ37
    subst l37 y37 z37
    obtain ⟨hh37, eh037⟩ : ∃ z, T37.heap = z := ⟨_, rfl⟩
    rw [eh037] at hQ37
    obtain ⟨rfl, Nq37, eh37⟩ := hQ37
    have N37 := Fr.app N21 Nq37
    refine own_tr st37 ?_
    have e37 : T37.heap = h21 := eh037.trans eh37
    show own_Gl _ _ _ _ _ _ _ (T37.setTop (mkF m 76 #[.val (.int p1), .val (.ref b1), .val (.int (1 : Int32)), .val (.ref su), .val (.int (0 : Int32))] [(.int (0 : Int32))]))
    refine own_st (fun _ k => XS.iload X37.here hx rfl (hb hby at_76) rfl k) ?_
    show own_Gl _ _ _ _ _ _ _ (T37.setTop (mkF m 78 #[.val (.int p1), .val (.ref b1), .val (.int (1 : Int32)), .val (.ref su), .val (.int (0 : Int32))] [(.int (0 : Int32)), (.int (0 : Int32))]))
    have hd44 : (0 : Int32) = (0 : Int32) := (by decide)
    refine own_st (fun _ k => XS.icmpNo X37.here hx rfl (hb hby at_78) rfl (teq hd44).2 k) ?_
    show own_Gl _ _ _ _ _ _ _ (T37.setTop (mkF m 81 #[.val (.int p1), .val (.ref b1), .val (.int (1 : Int32)), .val (.ref su), .val (.int (0 : Int32))] []))
    refine own_st (fun _ k => XS.iconst X37.here hx rfl (hb hby at_81) k) ?_
    show own_Gl _ _ _ _ _ _ _ (T37.setTop (mkF m 82 #[.val (.int p1), .val (.ref b1), .val (.int (1 : Int32)), .val (.ref su), .val (.int (0 : Int32))] [(.int (1 : Int32))]))
    refine own_st (fun _ k => XS.goto X37.here hx rfl (pc0 := 82) (pc' := 86) rfl (hb hby at_82) (by decide) (by decide) k) ?_
    show own_Gl _ _ _ _ _ _ _ (T37.setTop (mkF m 86 #[.val (.int p1), .val (.ref b1), .val (.int (1 : Int32)), .val (.ref su), .val (.int (0 : Int32))] [(.int (1 : Int32))]))
    exact own_retN X37 hx hlk (t := .boolean) hret (by simp) (hb hby at_86) e37 ⟨rfl, N37⟩ (by decide) (by decide)
  · rw [hk]
    show own_Gl _ _ _ _ _ _ _ (T21.setTop (mkF m 33 #[.val (.int p1), .val (.ref b1), .val (.int (2 : Int32)), .unset, .unset] []))
    refine own_st (fun _ k => XS.aloadN X21.here hx rfl (hb hby at_33) rfl rfl k) ?_
    show own_Gl _ _ _ _ _ _ _ (T21.setTop (mkF m 34 #[.val (.int p1), .val (.ref b1), .val (.int (2 : Int32)), .unset, .unset] [(.ref b1)]))
    refine own_st (fun _ k => XS.iloadN X21.here hx rfl (hb hby at_34) rfl k) ?_
    show own_Gl _ _ _ _ _ _ _ (T21.setTop (mkF m 35 #[.val (.int p1), .val (.ref b1), .val (.int (2 : Int32)), .unset, .unset] [(.int (2 : Int32)), (.ref b1)]))
    obtain ⟨cl45, Ar45, qq45, Ss45, Nn45, Hh45, Gg45⟩ := id Vw21
    have hin45 : ¬ ((2 : Int32) < 0 ∨ cl45.slots.size ≤ ((2 : Int32)).toNatClampNeg) := inb_of Ss45 ⟨by decide, by decide⟩
    have hat45 : cl45.slots[((2 : Int32)).toNatClampNeg]? = some (.ref sx) := Hh45.at hin45 (rfl)
    refine own_st (X21.aaload hx (j := (2 : Int32)) (v := (.ref sx)) (by rw [e21]; exact Ar45.1) (State.isArrayOf_alike hZ.alike Ar45.2.1) rfl Ar45.2.2 hin45 hat45 (g := (mkF m 35 #[.val (.int p1), .val (.ref b1), .val (.int (2 : Int32)), .unset, .unset] [(.int (2 : Int32)), (.ref b1)])) rfl rfl (hb hby at_35)) ?_
    show own_Gl _ _ _ _ _ _ _ (T21.setTop (mkF m 36 #[.val (.int p1), .val (.ref b1), .val (.int (2 : Int32)), .unset, .unset] [(.ref sx)]))
    refine own_st (fun _ k => XS.astoreN X21.here hx rfl (hb hby at_36) rfl rfl (l' := #[.val (.int p1), .val (.ref b1), .val (.int (2 : Int32)), .val (.ref sx), .unset]) rfl k) ?_
    show own_Gl _ _ _ _ _ _ _ (T21.setTop (mkF m 37 #[.val (.int p1), .val (.ref b1), .val (.int (2 : Int32)), .val (.ref sx), .unset] []))
    refine own_st (fun _ k => XS.iloadN X21.here hx rfl (hb hby at_37) rfl k) ?_
    show own_Gl _ _ _ _ _ _ _ (T21.setTop (mkF m 38 #[.val (.int p1), .val (.ref b1), .val (.int (2 : Int32)), .val (.ref sx), .unset] [(.int (2 : Int32))]))
    have hd46 : ¬ ((2 : Int32) = (0 : Int32)) := (by decide)
    refine own_st (fun _ k => XS.ifYes X21.here hx rfl (pc0 := 38) (pc' := 47) rfl (hb hby at_38) rfl ((if0 _ _).trans (feq hd46).2) (by decide) (by decide) k) ?_
    show own_Gl _ _ _ _ _ _ _ (T21.setTop (mkF m 47 #[.val (.int p1), .val (.ref b1), .val (.int (2 : Int32)), .val (.ref sx), .unset] []))
    refine own_st (fun _ k => XS.iloadN X21.here hx rfl (hb hby at_47) rfl k) ?_
    show own_Gl _ _ _ _ _ _ _ (T21.setTop (mkF m 48 #[.val (.int p1), .val (.ref b1), .val (.int (2 : Int32)), .val (.ref sx), .unset] [(.int (2 : Int32))]))
    refine own_st (fun _ k => XS.iconst X21.here hx rfl (hb hby at_48) k) ?_
    show own_Gl _ _ _ _ _ _ _ (T21.setTop (mkF m 49 #[.val (.int p1), .val (.ref b1), .val (.int (2 : Int32)), .val (.ref sx), .unset] [(.int (1 : Int32)), (.int (2 : Int32))]))
    have hd47 : ¬ ((2 : Int32) = (1 : Int32)) := (by decide)
    refine own_st (fun _ k => XS.icmpYes X21.here hx rfl (pc0 := 49) (pc' := 58) rfl (hb hby at_49) rfl (feq hd47).2 (by decide) (by decide) k) ?_
    show own_Gl _ _ _ _ _ _ _ (T21.setTop (mkF m 58 #[.val (.int p1), .val (.ref b1), .val (.int (2 : Int32)), .val (.ref sx), .unset] []))
    refine own_st (fun _ k => XS.iloadN X21.here hx rfl (hb hby at_58) rfl k) ?_
    show own_Gl _ _ _ _ _ _ _ (T21.setTop (mkF m 59 #[.val (.int p1), .val (.ref b1), .val (.int (2 : Int32)), .val (.ref sx), .unset] [(.int (2 : Int32))]))
    refine own_st (fun _ k => XS.iconst X21.here hx rfl (hb hby at_59) k) ?_
    show own_Gl _ _ _ _ _ _ _ (T21.setTop (mkF m 60 #[.val (.int p1), .val (.ref b1), .val (.int (2 : Int32)), .val (.ref sx), .unset] [(.int (2 : Int32)), (.int (2 : Int32))]))
    have hd48 : (2 : Int32) = (2 : Int32) := (by decide)
    refine own_st (fun _ k => XS.icmpNo X21.here hx rfl (hb hby at_60) rfl (teq hd48).2 k) ?_
    show own_Gl _ _ _ _ _ _ _ (T21.setTop (mkF m 63 #[.val (.int p1), .val (.ref b1), .val (.int (2 : Int32)), .val (.ref sx), .unset] []))
    refine own_st (fun _ k => XS.iconst X21.here hx rfl (hb hby at_63) k) ?_
    show own_Gl _ _ _ _ _ _ _ (T21.setTop (mkF m 64 #[.val (.int p1), .val (.ref b1), .val (.int (2 : Int32)), .val (.ref sx), .unset] [(.int (1 : Int32))]))
    refine own_st (fun _ k => XS.istore X21.here hx rfl (hb hby at_64) rfl (l' := #[.val (.int p1), .val (.ref b1), .val (.int (2 : Int32)), .val (.ref sx), .val (.int (1 : Int32))]) rfl k) ?_
    show own_Gl _ _ _ _ _ _ _ (T21.setTop (mkF m 66 #[.val (.int p1), .val (.ref b1), .val (.int (2 : Int32)), .val (.ref sx), .val (.int (1 : Int32))] []))
    refine own_st (fun _ k => XS.goto X21.here hx rfl (pc0 := 66) (pc' := 72) rfl (hb hby at_66) (by decide) (by decide) k) ?_
    show own_Gl _ _ _ _ _ _ _ (T21.setTop (mkF m 72 #[.val (.int p1), .val (.ref b1), .val (.int (2 : Int32)), .val (.ref sx), .val (.int (1 : Int32))] []))
    refine own_st (fun _ k => XS.aloadN X21.here hx rfl (hb hby at_72) rfl rfl k) ?_
    show own_Gl _ _ _ _ _ _ _ (T21.setTop (mkF m 73 #[.val (.int p1), .val (.ref b1), .val (.int (2 : Int32)), .val (.ref sx), .val (.int (1 : Int32))] [(.ref sx)]))
    have f50 := ((((f5.wr W6).wr W11).wr W16).wr W21)
    have f51 := ((f15.wr W16).wr W21)
    have f52 := ((((f7.wr W6).wr W11).wr W16).wr W21)
    have f53 := (((f12.wr W11).wr W16).wr W21)
    have f54 := ((f17.wr W16).wr W21)
    have f55 := (f22.wr W21)
    obtain ⟨cq49, kq49, q49a, q49b, q49c⟩ := isOf hZ e21 f54
    obtain ⟨_, _, ⟨T49, L49, k49, n49⟩, -, X49, ⟨Lc49, hQ49, l49, y49, z49⟩, st49⟩ := X21.virtualBack hx (y := (⟨"smalti/space/WriteModifier", "creates", "()Z"⟩ : MethodName)) (z := (⟨"smalti/space/WriteModifier", "creates", "()Z"⟩ : MethodName)) hown (mvT hZ (hw _ (List.mem_of_getElem? (i := 12) rfl))) (mvT hZ (hw _ (List.mem_of_getElem? (i := 13) rfl))) (notFace_of_selects (args := #[]) (mvT hZ (hw _ (List.mem_of_getElem? (i := 15) rfl)))) (mvT hZ (hw _ (List.mem_of_getElem? (i := 15) rfl))) (mvT hZ (hw _ (List.mem_of_getElem? (i := 14) rfl))) (by decide) (backOf (W := 0) (own_cr_x l Z a0 hw [] sw sx h21 n0 Zs23 f50 f51 ne_sw_sx) hZ (hw _ (List.mem_of_getElem? (i := 16) rfl)) (hw _ (List.mem_of_getElem? (i := 3) rfl)) (by decide) (by decide)) q49a q49c (g := (mkF m 73 #[.val (.int p1), .val (.ref b1), .val (.int (2 : Int32)), .val (.ref sx), .val (.int (1 : Int32))] [(.ref sx)])) rfl (by rw [hml]; rfl) (Steps.refl _) (argsL := []) (rest := []) (lenOf own_pd691901 rfl) rfl (by show 2 * 0 + _ ≤ _; exact Nat.le_of_eq rfl) (hb hby at_73) (fun _ _ => ⟨rfl, e21, (by decide : 1 + 0 ≤ room_1.cells), (by decide : 4 + 0 ≤ room_1.slots)⟩)
    dsimp only [Pt.U, Pt.locs, Pt.cells, Pt.slots] at X49 l49 y49 z49 st49 hQ49
    subst l49 y49 z49
    obtain ⟨hh49, eh049⟩ : ∃ z, T49.heap = z := ⟨_, rfl⟩
    rw [eh049] at hQ49
    obtain ⟨rfl, Nq49, eh49⟩ := hQ49
    have N49 := Fr.app N21 Nq49
    refine own_tr st49 ?_
    have e49 : T49.heap = h21 := eh049.trans eh49
    show own_Gl _ _ _ _ _ _ _ (T49.setTop (mkF m 76 #[.val (.int p1), .val (.ref b1), .val (.int (2 : Int32)), .val (.ref sx), .val (.int (1 : Int32))] [(.int (1 : Int32))]))
    refine own_st (fun _ k => XS.iload X49.here hx rfl (hb hby at_76) rfl k) ?_
    show own_Gl _ _ _ _ _ _ _ (T49.setTop (mkF m 78 #[.val (.int p1), .val (.ref b1), .val (.int (2 : Int32)), .val (.ref sx), .val (.int (1 : Int32))] [(.int (1 : Int32)), (.int (1 : Int32))]))
    have hd56 : (1 : Int32) = (1 : Int32) := (by decide)
    refine own_st (fun _ k => XS.icmpNo X49.here hx rfl (hb hby at_78) rfl (teq hd56).2 k) ?_
    show own_Gl _ _ _ _ _ _ _ (T49.setTop (mkF m 81 #[.val (.int p1), .val (.ref b1), .val (.int (2 : Int32)), .val (.ref sx), .val (.int (1 : Int32))] []))
    refine own_st (fun _ k => XS.iconst X49.here hx rfl (hb hby at_81) k) ?_
    show own_Gl _ _ _ _ _ _ _ (T49.setTop (mkF m 82 #[.val (.int p1), .val (.ref b1), .val (.int (2 : Int32)), .val (.ref sx), .val (.int (1 : Int32))] [(.int (1 : Int32))]))
    refine own_st (fun _ k => XS.goto X49.here hx rfl (pc0 := 82) (pc' := 86) rfl (hb hby at_82) (by decide) (by decide) k) ?_
    show own_Gl _ _ _ _ _ _ _ (T49.setTop (mkF m 86 #[.val (.int p1), .val (.ref b1), .val (.int (2 : Int32)), .val (.ref sx), .val (.int (1 : Int32))] [(.int (1 : Int32))]))
    exact own_retN X49 hx hlk (t := .boolean) hret (by simp) (hb hby at_86) e49 ⟨rfl, N49⟩ (by decide) (by decide)
  · rw [hk]
    show own_Gl _ _ _ _ _ _ _ (T21.setTop (mkF m 33 #[.val (.int p1), .val (.ref b1), .val (.int (3 : Int32)), .unset, .unset] []))
    refine own_st (fun _ k => XS.aloadN X21.here hx rfl (hb hby at_33) rfl rfl k) ?_
    show own_Gl _ _ _ _ _ _ _ (T21.setTop (mkF m 34 #[.val (.int p1), .val (.ref b1), .val (.int (3 : Int32)), .unset, .unset] [(.ref b1)]))
    refine own_st (fun _ k => XS.iloadN X21.here hx rfl (hb hby at_34) rfl k) ?_
    show own_Gl _ _ _ _ _ _ _ (T21.setTop (mkF m 35 #[.val (.int p1), .val (.ref b1), .val (.int (3 : Int32)), .unset, .unset] [(.int (3 : Int32)), (.ref b1)]))
    obtain ⟨cl57, Ar57, qq57, Ss57, Nn57, Hh57, Gg57⟩ := id Vw21
    have hin57 : ¬ ((3 : Int32) < 0 ∨ cl57.slots.size ≤ ((3 : Int32)).toNatClampNeg) := inb_of Ss57 ⟨by decide, by decide⟩
    have hat57 : cl57.slots[((3 : Int32)).toNatClampNeg]? = some (.ref sp) := Hh57.at hin57 (rfl)
    refine own_st (X21.aaload hx (j := (3 : Int32)) (v := (.ref sp)) (by rw [e21]; exact Ar57.1) (State.isArrayOf_alike hZ.alike Ar57.2.1) rfl Ar57.2.2 hin57 hat57 (g := (mkF m 35 #[.val (.int p1), .val (.ref b1), .val (.int (3 : Int32)), .unset, .unset] [(.int (3 : Int32)), (.ref b1)])) rfl rfl (hb hby at_35)) ?_
    show own_Gl _ _ _ _ _ _ _ (T21.setTop (mkF m 36 #[.val (.int p1), .val (.ref b1), .val (.int (3 : Int32)), .unset, .unset] [(.ref sp)]))
    refine own_st (fun _ k => XS.astoreN X21.here hx rfl (hb hby at_36) rfl rfl (l' := #[.val (.int p1), .val (.ref b1), .val (.int (3 : Int32)), .val (.ref sp), .unset]) rfl k) ?_
    show own_Gl _ _ _ _ _ _ _ (T21.setTop (mkF m 37 #[.val (.int p1), .val (.ref b1), .val (.int (3 : Int32)), .val (.ref sp), .unset] []))
    refine own_st (fun _ k => XS.iloadN X21.here hx rfl (hb hby at_37) rfl k) ?_
    show own_Gl _ _ _ _ _ _ _ (T21.setTop (mkF m 38 #[.val (.int p1), .val (.ref b1), .val (.int (3 : Int32)), .val (.ref sp), .unset] [(.int (3 : Int32))]))
    have hd58 : ¬ ((3 : Int32) = (0 : Int32)) := (by decide)
    refine own_st (fun _ k => XS.ifYes X21.here hx rfl (pc0 := 38) (pc' := 47) rfl (hb hby at_38) rfl ((if0 _ _).trans (feq hd58).2) (by decide) (by decide) k) ?_
    show own_Gl _ _ _ _ _ _ _ (T21.setTop (mkF m 47 #[.val (.int p1), .val (.ref b1), .val (.int (3 : Int32)), .val (.ref sp), .unset] []))
    refine own_st (fun _ k => XS.iloadN X21.here hx rfl (hb hby at_47) rfl k) ?_
    show own_Gl _ _ _ _ _ _ _ (T21.setTop (mkF m 48 #[.val (.int p1), .val (.ref b1), .val (.int (3 : Int32)), .val (.ref sp), .unset] [(.int (3 : Int32))]))
    refine own_st (fun _ k => XS.iconst X21.here hx rfl (hb hby at_48) k) ?_
    show own_Gl _ _ _ _ _ _ _ (T21.setTop (mkF m 49 #[.val (.int p1), .val (.ref b1), .val (.int (3 : Int32)), .val (.ref sp), .unset] [(.int (1 : Int32)), (.int (3 : Int32))]))
    have hd59 : ¬ ((3 : Int32) = (1 : Int32)) := (by decide)
    refine own_st (fun _ k => XS.icmpYes X21.here hx rfl (pc0 := 49) (pc' := 58) rfl (hb hby at_49) rfl (feq hd59).2 (by decide) (by decide) k) ?_
    show own_Gl _ _ _ _ _ _ _ (T21.setTop (mkF m 58 #[.val (.int p1), .val (.ref b1), .val (.int (3 : Int32)), .val (.ref sp), .unset] []))
    refine own_st (fun _ k => XS.iloadN X21.here hx rfl (hb hby at_58) rfl k) ?_
    show own_Gl _ _ _ _ _ _ _ (T21.setTop (mkF m 59 #[.val (.int p1), .val (.ref b1), .val (.int (3 : Int32)), .val (.ref sp), .unset] [(.int (3 : Int32))]))
    refine own_st (fun _ k => XS.iconst X21.here hx rfl (hb hby at_59) k) ?_
    show own_Gl _ _ _ _ _ _ _ (T21.setTop (mkF m 60 #[.val (.int p1), .val (.ref b1), .val (.int (3 : Int32)), .val (.ref sp), .unset] [(.int (2 : Int32)), (.int (3 : Int32))]))
    have hd60 : ¬ ((3 : Int32) = (2 : Int32)) := (by decide)
    refine own_st (fun _ k => XS.icmpYes X21.here hx rfl (pc0 := 60) (pc' := 69) rfl (hb hby at_60) rfl (feq hd60).2 (by decide) (by decide) k) ?_
    show own_Gl _ _ _ _ _ _ _ (T21.setTop (mkF m 69 #[.val (.int p1), .val (.ref b1), .val (.int (3 : Int32)), .val (.ref sp), .unset] []))
    refine own_st (fun _ k => XS.iconst X21.here hx rfl (hb hby at_69) k) ?_
    show own_Gl _ _ _ _ _ _ _ (T21.setTop (mkF m 70 #[.val (.int p1), .val (.ref b1), .val (.int (3 : Int32)), .val (.ref sp), .unset] [(.int (0 : Int32))]))
    refine own_st (fun _ k => XS.istore X21.here hx rfl (hb hby at_70) rfl (l' := #[.val (.int p1), .val (.ref b1), .val (.int (3 : Int32)), .val (.ref sp), .val (.int (0 : Int32))]) rfl k) ?_
    show own_Gl _ _ _ _ _ _ _ (T21.setTop (mkF m 72 #[.val (.int p1), .val (.ref b1), .val (.int (3 : Int32)), .val (.ref sp), .val (.int (0 : Int32))] []))
    refine own_st (fun _ k => XS.aloadN X21.here hx rfl (hb hby at_72) rfl rfl k) ?_
    show own_Gl _ _ _ _ _ _ _ (T21.setTop (mkF m 73 #[.val (.int p1), .val (.ref b1), .val (.int (3 : Int32)), .val (.ref sp), .val (.int (0 : Int32))] [(.ref sp)]))
    have f62 := ((((f5.wr W6).wr W11).wr W16).wr W21)
    have f63 := ((f15.wr W16).wr W21)
    have f64 := ((((f7.wr W6).wr W11).wr W16).wr W21)
    have f65 := (((f12.wr W11).wr W16).wr W21)
    have f66 := ((f17.wr W16).wr W21)
    have f67 := (f22.wr W21)
    obtain ⟨cq61, kq61, q61a, q61b, q61c⟩ := isOf hZ e21 f67
    obtain ⟨_, _, ⟨T61, L61, k61, n61⟩, -, X61, ⟨Lc61, hQ61, l61, y61, z61⟩, st61⟩ := X21.virtualBack hx (y := (⟨"smalti/space/WriteModifier", "creates", "()Z"⟩ : MethodName)) (z := (⟨"smalti/space/WriteModifier", "creates", "()Z"⟩ : MethodName)) hown (mvT hZ (hw _ (List.mem_of_getElem? (i := 12) rfl))) (mvT hZ (hw _ (List.mem_of_getElem? (i := 13) rfl))) (notFace_of_selects (args := #[]) (mvT hZ (hw _ (List.mem_of_getElem? (i := 15) rfl)))) (mvT hZ (hw _ (List.mem_of_getElem? (i := 15) rfl))) (mvT hZ (hw _ (List.mem_of_getElem? (i := 14) rfl))) (by decide) (backOf (W := 0) (own_cr_o l Z a0 hw [] sp sw sx h21 n0 Zs23 f62 f63 (Ne.symm ne_sw_sp) (Ne.symm ne_sx_sp)) hZ (hw _ (List.mem_of_getElem? (i := 16) rfl)) (hw _ (List.mem_of_getElem? (i := 3) rfl)) (by decide) (by decide)) q61a q61c (g := (mkF m 73 #[.val (.int p1), .val (.ref b1), .val (.int (3 : Int32)), .val (.ref sp), .val (.int (0 : Int32))] [(.ref sp)])) rfl (by rw [hml]; rfl) (Steps.refl _) (argsL := []) (rest := []) (lenOf own_pd691901 rfl) rfl (by show 2 * 0 + _ ≤ _; exact Nat.le_of_eq rfl) (hb hby at_73) (fun _ _ => ⟨rfl, e21, (by decide : 1 + 0 ≤ room_1.cells), (by decide : 4 + 0 ≤ room_1.slots)⟩)
    dsimp only [Pt.U, Pt.locs, Pt.cells, Pt.slots] at X61 l61 y61 z61 st61 hQ61
    subst l61 y61 z61
    obtain ⟨hh61, eh061⟩ : ∃ z, T61.heap = z := ⟨_, rfl⟩
    rw [eh061] at hQ61
    obtain ⟨rfl, Nq61, eh61⟩ := hQ61
    have N61 := Fr.app N21 Nq61
    refine own_tr st61 ?_
    have e61 : T61.heap = h21 := eh061.trans eh61
    show own_Gl _ _ _ _ _ _ _ (T61.setTop (mkF m 76 #[.val (.int p1), .val (.ref b1), .val (.int (3 : Int32)), .val (.ref sp), .val (.int (0 : Int32))] [(.int (0 : Int32))]))
    refine own_st (fun _ k => XS.iload X61.here hx rfl (hb hby at_76) rfl k) ?_
    show own_Gl _ _ _ _ _ _ _ (T61.setTop (mkF m 78 #[.val (.int p1), .val (.ref b1), .val (.int (3 : Int32)), .val (.ref sp), .val (.int (0 : Int32))] [(.int (0 : Int32)), (.int (0 : Int32))]))
    have hd68 : (0 : Int32) = (0 : Int32) := (by decide)
    refine own_st (fun _ k => XS.icmpNo X61.here hx rfl (hb hby at_78) rfl (teq hd68).2 k) ?_
    show own_Gl _ _ _ _ _ _ _ (T61.setTop (mkF m 81 #[.val (.int p1), .val (.ref b1), .val (.int (3 : Int32)), .val (.ref sp), .val (.int (0 : Int32))] []))
    refine own_st (fun _ k => XS.iconst X61.here hx rfl (hb hby at_81) k) ?_
    show own_Gl _ _ _ _ _ _ _ (T61.setTop (mkF m 82 #[.val (.int p1), .val (.ref b1), .val (.int (3 : Int32)), .val (.ref sp), .val (.int (0 : Int32))] [(.int (1 : Int32))]))
    refine own_st (fun _ k => XS.goto X61.here hx rfl (pc0 := 82) (pc' := 86) rfl (hb hby at_82) (by decide) (by decide) k) ?_
    show own_Gl _ _ _ _ _ _ _ (T61.setTop (mkF m 86 #[.val (.int p1), .val (.ref b1), .val (.int (3 : Int32)), .val (.ref sp), .val (.int (0 : Int32))] [(.int (1 : Int32))]))
    exact own_retN X61 hx hlk (t := .boolean) hret (by simp) (hb hby at_86) e61 ⟨rfl, N61⟩ (by decide) (by decide)
set_option maxRecDepth 65536 in
set_option maxHeartbeats 40000000 in
theorem comes_1 {Post : Tables → Env → Array Value → State → Outcome → State → Prop} (hpost : ∀ tb e args s v u, (limb_1_1.after args s (.returned v) u = true ∧ limb_1_2.after args s (.returned v) u = true ∧ True) → FrameEnd s (.returned v) u (Jvm.fieldLocs frame_1_writes args s ++ Jvm.arrayLocs frame_1_arrays args s ++ Jvm.staticLocs frame_1_statics s) 16 128 → Post tb e args s (.returned v) u) :
    ArmFor flags0 classFile x code maxLocals ret World_1 tables_1 room_1 Calls_1 rest_1 Pre_1 Post := by
  intro l hfl _ _ p e ha hc hk s m args below hf hA hF happ hP
  obtain ⟨hcalls, hrest, hpre⟩ := hP
  obtain ⟨-, -, -, hnamed, -, -, -, hat⟩ := (Spec.applies_iff hf).mp happ
  obtain ⟨hg, hn⟩ := and_e (Cond.before_iff.mp (show (Jvm.Cond.and given_1 narrow_1).before args s = true from hpre))
  obtain ⟨gg1, gg2⟩ := and_e hg
  obtain ⟨w0, rfl⟩ : ∃ w0 : Value, args = #[w0] := by
    have hs : args.size = 1 := by simpa [Cond.value, given_1] using gg1
    obtain ⟨L⟩ := args
    match L, hs with
    | [w0], _ => exact ⟨w0, rfl⟩
  have hw := fun d (hd : d ∈ tables_1) => atoms_spec (ws := Jvm.Cond.code x code maxLocals ret :: tables_1) hat d (List.mem_cons_of_mem _ hd)
  have hfit : Fit s := fun {y c} hc i hi => by
    obtain ⟨ha, rfl⟩ := Array.getElem?_eq_some_iff.mp hc
    have q := List.all_eq_true.mp ((Array.all_eq_true_iff_forall_mem.mp hF) _ (Array.getElem_mem ha)) i (List.mem_range.mpr hi)
    simpa [Array.getElem?_eq_getElem hi] using q
  obtain ⟨i0, ei0⟩ := is_v gg2
  obtain rfl : w0 = (.int i0) := Option.some.inj ei0
  obtain ⟨nn1, nn2⟩ := and_e hn
  obtain ⟨sw, ev_sw⟩ := exa_v nn1
  have xe_sw := Exa.start ev_sw nn1
  have xs_sw := Sta.start ev_sw (Or.inr ⟨(hw _ (List.mem_of_getElem? (i := 3) rfl)), (hw _ (List.mem_of_getElem? (i := 4) rfl))⟩)
  obtain ⟨nn3, nn4⟩ := and_e nn2
  obtain ⟨su, ev_su⟩ := exa_v nn3
  have xe_su := Exa.start ev_su nn3
  have xs_su := Sta.start ev_su (Or.inr ⟨(hw _ (List.mem_of_getElem? (i := 3) rfl)), (hw _ (List.mem_of_getElem? (i := 7) rfl))⟩)
  obtain ⟨nn5, nn6⟩ := and_e nn4
  obtain ⟨sx, ev_sx⟩ := exa_v nn5
  have xe_sx := Exa.start ev_sx nn5
  have xs_sx := Sta.start ev_sx (Or.inr ⟨(hw _ (List.mem_of_getElem? (i := 3) rfl)), (hw _ (List.mem_of_getElem? (i := 9) rfl))⟩)
  obtain ⟨nn7, nn8⟩ := and_e nn6
  obtain ⟨sp, ev_sp⟩ := exa_v nn7
  have xe_sp := Exa.start ev_sp nn7
  have xs_sp := Sta.start ev_sp (Or.inr ⟨(hw _ (List.mem_of_getElem? (i := 3) rfl)), (hw _ (List.mem_of_getElem? (i := 11) rfl))⟩)
  obtain ⟨nn9, nn10⟩ := and_e nn8
  have xo_sp := own_fld_start ev_sp nn9
  obtain ⟨nn11, nn12⟩ := and_e nn10
  have xo_sw := own_fld_start ev_sw nn11
  obtain ⟨nn13, nn14⟩ := and_e nn12
  have xo_sx := own_fld_start ev_sx nn13
  have xo_su := own_fld_start ev_su nn14
  have xn_sw_su : sw ≠ su := Fld.ne xo_sw xo_su (by decide)
  have xn_sw_sx : sw ≠ sx := Fld.ne xo_sw xo_sx (by decide)
  have xn_sw_sp : sw ≠ sp := Fld.ne xo_sw xo_sp (by decide)
  have xn_su_sx : su ≠ sx := Fld.ne xo_su xo_sx (by decide)
  have xn_su_sp : su ≠ sp := Fld.ne xo_su xo_sp (by decide)
  have xn_sx_sp : sx ≠ sp := Fld.ne xo_sx xo_sp (by decide)
  obtain ⟨n, o, h1, h2, h3, _, L, rfl, ⟨rfl, N⟩, hq⟩ := own_law l s _ hw tables_1 i0 sw su sx sp s.heap s.heap.size (Nat.le_refl _) xs_sw xs_su xs_sx xs_sp xe_sw xe_su xe_sx xe_sp xn_sw_su xn_sw_sx xn_sw_sp xn_su_sx xn_su_sp xn_sx_sp p e ha hc hk s m _ below hf ((Spec.applies_iff_loose hf).mp happ).1 ⟨rfl, State.Warmed39.refl s, rfl⟩ trivial
  refine ⟨n, _, h1, h2, h3, hpost _ _ _ _ _ _ ⟨Cond.after_iff.mpr rfl, Cond.after_iff.mpr (eq_i res_at (Term.int_eval (1)) rfl), trivial⟩ ⟨hq.1, hq.2.1, (hq.2.2.sift fun y hy => Or.inr (N y hy)).mono (by decide) (by decide)⟩⟩
theorem main_1_1 : Claimed_1_1 := comes_1 fun _ _ _ _ _ _ h hF => ⟨h.1, hF⟩
theorem main_1_2 : Claimed_1_2 := comes_1 fun _ _ _ _ _ _ h hF => ⟨h.2.1, hF⟩

end Jvm.Pilot.@@N@@
namespace Jvm.Pilot.@@N@@
open Jvm Jvm.ClassFile Sem Op Lib Jvm.Free Jvm.Stand Jvm.Pilot.@@N@@.Jvm.D
/-! MADE BY PROGRAM (witnessworld.py) out of the Statement's table words and the real class files: 13 classes; the members and pool entries that the words name. The judged class is class 1, her method 1. -/
namespace start1
open Jvm.ClassFile
def u (s : String) : CpInfo := .utf8 (stringToUtf16 s)
/-- a pool by its gaps: so many unusable entries, then the entry; so many at the end -/
def gap : Nat → List CpInfo → List CpInfo
  | 0, r => r
  | n + 1, r => .unusable :: gap n r
def poolList (es : List (Nat × CpInfo)) (last : Nat) : List CpInfo := es.foldr (fun e r => gap e.1 (e.2 :: r)) (gap last [])
def pool (es : List (Nat × CpInfo)) (last : Nat) : Array CpInfo := ⟨poolList es last⟩
def fileOf (pool : Array CpInfo) (this : Nat) (attrs : Array Attribute := #[]) (ms : Array MethodInfo := #[]) (fl : Nat := 33) (sup : Nat := 0) (ifs : Array Nat := #[]) (fds : Array FieldInfo := #[]) : ClassFile where
  minorVersion := 0
  majorVersion := 65
  constantPool := pool
  accessFlags := fl
  thisClass := this
  superClass := sup
  interfaces := ifs
  fields := fds
  methods := ms
  attributes := attrs
def plain (name : String) (sup : Option ClassId) : Class where
  name := name
  kind := .ordinary
  loader := none
  accessFlags := 33
  super := sup
  interfaces := #[]
  cf := none
  fields := #[]
  methods := #[]
  instanceTypes := #[]
  staticTypes := #[]
  resolved := #[]
  callSites := []
  init := .initialized
  statics := none
  mirror := none

def pool0 : Array CpInfo := pool [(5, u "<init>"), (0, u "()V"), (1, .class_ 10), (1, u "java/lang/Object")] 113

def k0m0 : Method := { name := "<init>", desc := "()V", sig := { parameters := [], returnType := none }, accessFlags := 1, code := none }
/-- java/lang/Object -/
def k0 : Class := { plain "java/lang/Object" none with
  accessFlags := 33
  interfaces := #[]
  cf := some (fileOf pool0 8 #[] #[{ accessFlags := 1, nameIndex := 5, descriptorIndex := 6, attributes := #[] }] 33 0 #[] #[])
  fields := #[]
  methods := #[k0m0]
  instanceTypes := #[]
  staticTypes := #[]
  resolved := Array.replicate 124 none
  statics := none }

def pool1 : Array CpInfo := pool [(2, .class_ 4), (1, u "java/lang/Object"), (0, u "<init>"), (0, u "()V"), (0, .class_ 8), (0, u "smalti/space/WriteModifier"), (0, .fieldref 7 10), (0, .nameAndType 11 12), (0, u "WRITE_ONLY"), (0, u "Lsmalti/space/WriteModifier;"), (0, .fieldref 7 14), (0, .nameAndType 15 12), (0, u "UPDATE_ONLY"), (0, .fieldref 7 17), (0, .nameAndType 18 12), (0, u "UPDATE_OR_WRITE"), (0, .fieldref 7 20), (0, .nameAndType 21 12), (0, u "PARTIAL_UPDATE"), (0, .methodref 7 23), (0, .nameAndType 24 25), (0, u "creates"), (0, u "()Z"), (0, .class_ 27), (0, u "smalti/space/WriteModifierCreatesPinLaw"), (2, u "law"), (0, u "(I)Z")] 5

def k1m0 : Method := { name := "<init>", desc := "()V", sig := { parameters := [], returnType := none }, accessFlags := 1, code := none }
def k1c1 : Code := { maxStack := 4, maxLocals := 5, code := code, exceptionTable := #[], attributes := #[] }
def k1m1 : Method := { name := "law", desc := "(I)Z", sig := { parameters := [.int], returnType := some .boolean }, accessFlags := 9, code := some k1c1 }
/-- smalti/space/WriteModifierCreatesPinLaw -/
def k1 : Class := { plain "smalti/space/WriteModifierCreatesPinLaw" (some 0) with
  accessFlags := 49
  interfaces := #[]
  cf := some (fileOf pool1 26 #[] #[{ accessFlags := 1, nameIndex := 5, descriptorIndex := 6, attributes := #[] }, { accessFlags := 9, nameIndex := 30, descriptorIndex := 31, attributes := #[] }] 49 2 #[] #[])
  fields := #[]
  methods := #[k1m0, k1m1]
  instanceTypes := #[]
  staticTypes := #[]
  resolved := Array.replicate 37 none
  statics := none }

def pool2 : Array CpInfo := pool [(1, .class_ 2), (0, u "java/lang/constant/Constable"), (0, .class_ 4), (0, u "java/lang/Object")] 6

/-- java/lang/constant/Constable -/
def k2 : Class := { plain "java/lang/constant/Constable" (some 0) with
  accessFlags := 1537
  interfaces := #[]
  cf := some (fileOf pool2 1 #[] #[] 1537 3 #[] #[])
  fields := #[]
  methods := #[]
  instanceTypes := #[]
  staticTypes := #[]
  resolved := Array.replicate 11 none
  statics := none }

def pool3 : Array CpInfo := pool [(1, .class_ 2), (0, u "java/lang/Comparable"), (0, .class_ 4), (0, u "java/lang/Object")] 7

/-- java/lang/Comparable -/
def k3 : Class := { plain "java/lang/Comparable" (some 0) with
  accessFlags := 1537
  interfaces := #[]
  cf := some (fileOf pool3 1 #[] #[] 1537 3 #[] #[])
  fields := #[]
  methods := #[]
  instanceTypes := #[]
  staticTypes := #[]
  resolved := Array.replicate 12 none
  statics := none }

def pool4 : Array CpInfo := pool [(1, .class_ 2), (0, u "java/io/Serializable"), (0, .class_ 4), (0, u "java/lang/Object")] 2

/-- java/io/Serializable -/
def k4 : Class := { plain "java/io/Serializable" (some 0) with
  accessFlags := 1537
  interfaces := #[]
  cf := some (fileOf pool4 1 #[] #[] 1537 3 #[] #[])
  fields := #[]
  methods := #[]
  instanceTypes := #[]
  staticTypes := #[]
  resolved := Array.replicate 7 none
  statics := none }

def pool5 : Array CpInfo := pool [(2, .class_ 4), (1, u "java/lang/Enum"), (0, u "name"), (0, u "Ljava/lang/String;"), (2, u "ordinal"), (0, u "I"), (1, .class_ 14), (1, u "java/lang/Object"), (4, u "hash"), (86, .class_ 108), (1, u "java/lang/Enum$EnumDesc"), (2, .class_ 112), (0, u "java/lang/constant/Constable"), (0, .class_ 114), (0, u "java/lang/Comparable"), (0, .class_ 116), (0, u "java/io/Serializable")] 87

/-- java/lang/Enum -/
def k5 : Class := { plain "java/lang/Enum" (some 0) with
  accessFlags := 1057
  interfaces := #[2, 3, 4]
  cf := some (fileOf pool5 2 #[.nestMembers #[106]] #[] 1057 12 #[111, 113, 115] #[{ accessFlags := 18, nameIndex := 5, descriptorIndex := 6, attributes := #[] }, { accessFlags := 18, nameIndex := 9, descriptorIndex := 10, attributes := #[] }, { accessFlags := 2, nameIndex := 19, descriptorIndex := 10, attributes := #[] }])
  fields := #[{ name := "name", type := (.object "java/lang/String"), accessFlags := 18, slot := 0, constantValue := 0 }, { name := "ordinal", type := .int, accessFlags := 18, slot := 1, constantValue := 0 }, { name := "hash", type := .int, accessFlags := 2, slot := 2, constantValue := 0 }]
  methods := #[]
  instanceTypes := #[(.object "java/lang/String"), .int, .int]
  staticTypes := #[]
  resolved := Array.replicate 204 none
  statics := none }

def pool6 : Array CpInfo := pool [(1, .class_ 2), (0, u "smalti/space/WriteModifier"), (0, .fieldref 1 4), (0, .nameAndType 5 6), (0, u "WRITE_ONLY"), (0, u "Lsmalti/space/WriteModifier;"), (2, u "UPDATE_ONLY"), (0, .fieldref 1 11), (0, .nameAndType 12 6), (0, u "UPDATE_OR_WRITE"), (2, u "PARTIAL_UPDATE"), (2, u "$VALUES"), (0, u "[Lsmalti/space/WriteModifier;"), (6, .class_ 28), (1, u "java/lang/Enum"), (22, u "creates"), (0, u "()Z")] 5

def k6c0 : Code := { maxStack := 2, maxLocals := 1, code := prog_127_method_4_code, exceptionTable := #[], attributes := #[] }
def k6m0 : Method := { name := "creates", desc := "()Z", sig := { parameters := [], returnType := some .boolean }, accessFlags := 0, code := some k6c0 }
/-- smalti/space/WriteModifier -/
def k6 : Class := { plain "smalti/space/WriteModifier" (some 5) with
  accessFlags := 16433
  interfaces := #[]
  cf := some (fileOf pool6 1 #[] #[{ accessFlags := 0, nameIndex := 51, descriptorIndex := 52, attributes := #[] }] 16433 26 #[] #[{ accessFlags := 16409, nameIndex := 5, descriptorIndex := 6, attributes := #[] }, { accessFlags := 16409, nameIndex := 9, descriptorIndex := 6, attributes := #[] }, { accessFlags := 16409, nameIndex := 12, descriptorIndex := 6, attributes := #[] }, { accessFlags := 16409, nameIndex := 15, descriptorIndex := 6, attributes := #[] }, { accessFlags := 4122, nameIndex := 18, descriptorIndex := 19, attributes := #[] }])
  fields := #[{ name := "WRITE_ONLY", type := (.object "smalti/space/WriteModifier"), accessFlags := 16409, slot := 0, constantValue := 0 }, { name := "UPDATE_ONLY", type := (.object "smalti/space/WriteModifier"), accessFlags := 16409, slot := 1, constantValue := 0 }, { name := "UPDATE_OR_WRITE", type := (.object "smalti/space/WriteModifier"), accessFlags := 16409, slot := 2, constantValue := 0 }, { name := "PARTIAL_UPDATE", type := (.object "smalti/space/WriteModifier"), accessFlags := 16409, slot := 3, constantValue := 0 }, { name := "$VALUES", type := (.array (.object "smalti/space/WriteModifier")), accessFlags := 4122, slot := 4, constantValue := 0 }]
  methods := #[k6m0]
  instanceTypes := #[(.object "java/lang/String"), .int, .int]
  staticTypes := #[(.object "smalti/space/WriteModifier"), (.object "smalti/space/WriteModifier"), (.object "smalti/space/WriteModifier"), (.object "smalti/space/WriteModifier"), (.array (.object "smalti/space/WriteModifier"))]
  resolved := Array.replicate 58 none
  statics := some 0 }

def pool7 : Array CpInfo := pool [(1, u "java/lang/Cloneable"), (0, .class_ 1), (0, u "java/lang/Object"), (0, .class_ 3)] 3

/-- java/lang/Cloneable -/
def k7 : Class := { plain "java/lang/Cloneable" (some 0) with
  accessFlags := 1537
  interfaces := #[]
  cf := some (fileOf pool7 2 #[] #[] 1537 4 #[] #[])
  fields := #[]
  methods := #[]
  instanceTypes := #[]
  staticTypes := #[]
  resolved := Array.replicate 8 none
  statics := none }

/-- the primitive byte -/
def k8 : Class := { plain "byte" none with kind := .primitive 'B', accessFlags := 0x411 }
/-- [B -/
def k9 : Class := { plain "[B" (some 0) with kind := .array 8 .byte, interfaces := #[7, 4], accessFlags := 1041 }

/-- the primitive int -/
def k10 : Class := { plain "int" none with kind := .primitive 'I', accessFlags := 0x411 }
/-- [I -/
def k11 : Class := { plain "[I" (some 0) with kind := .array 10 .int, interfaces := #[7, 4], accessFlags := 1041 }

/-- [Lsmalti/space/WriteModifier; -/
def k12 : Class := { plain "[Lsmalti/space/WriteModifier;" (some 0) with kind := .array 6 (.object "smalti/space/WriteModifier"), interfaces := #[7, 4], accessFlags := 1041 }

def heap : Heap := #[{ cls := 6, slots := #[.ref 1, .ref 2, .ref 3, .ref 4, .null], vm := .statics 6 },
  { cls := 6, slots := #[.null, .int 0, .int 0], vm := .none },
  { cls := 6, slots := #[.null, .int 1, .int 0], vm := .none },
  { cls := 6, slots := #[.null, .int 2, .int 0], vm := .none },
  { cls := 6, slots := #[.null, .int 3, .int 0], vm := .none }]
def classes : Array Class := #[k0, k1, k2, k3, k4, k5, k6, k7, k8, k9, k10, k11, k12]
def interned : List (Array UInt16 × Addr) := []
def slotsUsed : Nat := 17
def theMethod : MethodId := ⟨1, 1⟩
def args0 : Array Value := #[.int 5]
def aboutOver (below : List Frame) : State where
  vm := { classes := classes, interned := interned.toArray }
  heap := heap
  slotsUsed := slotsUsed
  threads := #[{ frames := .invoking theMethod args0 :: below }]
def below0 : List Frame := [.native { method := ⟨0, 0⟩, args := #[] }]
def about1 : State := aboutOver below0
def p0 : Program := .bare "" "" ""
def e0 : Env := launch0.env 0 0 0
theorem w_frames : about1.frames = Frame.invoking theMethod args0 :: below0 := rfl
set_option maxRecDepth 65536 in
theorem w_args : argsFit about1.vm theMethod args0 = true := by decide +kernel
set_option maxRecDepth 65536 in
theorem w_heap : heapFits about1 = true := by decide +kernel
set_option maxRecDepth 65536 in
theorem w_runnable : about1.curStatus? = some .runnable := by decide +kernel
set_option maxRecDepth 65536 in
theorem w_alone : about1.alone = true := by decide +kernel
set_option maxRecDepth 65536 in
theorem w_named : about1.methodNamed? x = some theMethod := by decide +kernel
set_option maxRecDepth 65536 in
theorem w_hears : about1.hears theMethod below0 = true := by decide +kernel
set_option maxRecDepth 65536 in
theorem w_ripe : about1.ripe theMethod args0 below0 = true := by decide +kernel
theorem w_running : about1.status = .running := rfl
set_option maxRecDepth 65536 in
theorem w_room : about1.hasRoom e0.platform room_1 = true :=
  launch0.hasRoom_least _ room_1 (by decide +kernel) (by decide +kernel) (by decide +kernel) (by decide +kernel) (by decide +kernel) (by decide +kernel)
theorem allAtoms_all (ts : List Jvm.Cond) (a : Array Jvm.Value) (st : Jvm.State) : (allAtoms ts).before a st = ts.all (fun c => c.before a st) := by
  induction ts with
  | nil => rfl
  | cons c t ih =>
    show (Jvm.Cond.and c (allAtoms t)).before a st = _
    rw [Jvm.Cond.before_and, ih, List.all_cons]
def words1 : List Jvm.Cond := Jvm.Cond.code x code maxLocals ret :: tables_1
/-- a 'code' word, met by the world's own term for the bytes: nothing is compared byte by byte -/
theorem code_word {y : MethodName} {bytes : ByteArray} {mx : Nat} {rt : Option FieldType} {a : Array Value} {s : State} {m : MethodId} {meth : Method} {c : Code} (h1 : s.methodNamed? y = some m) (h2 : s.vm.method? m = some meth) (h3 : meth.code = some c) (h4 : c.code = bytes)
    (h5 : (c.maxLocals == mx && c.exceptionTable.isEmpty && decide (c.maxStack ≤ mostOperands) && decide (meth.sig.returnType = rt) && !meth.locks && decide (parseMethodDescriptor y.desc = some meth.sig)) = true) : (Jvm.Cond.code y bytes mx rt).before a s = true := by
  simp only [Bool.and_eq_true, beq_iff_eq, Bool.not_eq_true', decide_eq_true_eq] at h5
  obtain ⟨⟨⟨⟨⟨g1, g2⟩, g3⟩, g4⟩, g5⟩, g6⟩ := h5
  simp [Cond.before, Cond.holds, Cond.value, h1, h2, h3, h4, g1, g2, g3, g4, g5, g6]
def isCode : Jvm.Cond → Bool
  | .code _ _ _ _ => true
  | _ => false
theorem all_split {L : List Jvm.Cond} {P : Jvm.Cond → Bool} (h1 : L.all (fun c => isCode c || P c) = true) (h2 : ∀ c ∈ L.filter isCode, P c = true) : L.all P = true := by
  refine List.all_eq_true.mpr fun c hc => ?_
  have h := List.all_eq_true.mp h1 c hc
  rcases Bool.eq_false_or_eq_true (isCode c) with hi | hi
  · exact h2 c (List.mem_filter.mpr ⟨hc, hi⟩)
  · simpa [hi] using h
set_option maxRecDepth 65536 in
theorem w_c0 : (Jvm.Cond.code x code maxLocals ret).before args0 about1 = true := code_word (m := ⟨1, 1⟩) (meth := k1m1) (c := k1c1) (by decide +kernel) rfl rfl rfl (by decide +kernel)
set_option maxRecDepth 65536 in
theorem w_c1 : (Jvm.Cond.code ({ cls := "smalti/space/WriteModifier", name := "creates", desc := "()Z" } : Jvm.MethodName) prog_127_method_4_code (1 : Nat) (Option.some Jvm.ClassFile.FieldType.boolean)).before args0 about1 = true := code_word (m := ⟨6, 0⟩) (meth := k6m0) (c := k6c0) (by decide +kernel) rfl rfl rfl (by decide +kernel)
def codes1 : List Jvm.Cond := [Jvm.Cond.code x code maxLocals ret, Jvm.Cond.code ({ cls := "smalti/space/WriteModifier", name := "creates", desc := "()Z" } : Jvm.MethodName) prog_127_method_4_code (1 : Nat) (Option.some Jvm.ClassFile.FieldType.boolean)]
set_option maxRecDepth 65536 in
theorem codes_eq : words1.filter isCode = codes1 := rfl
theorem w_codes : ∀ c ∈ words1.filter isCode, c.before args0 about1 = true := by
  rw [codes_eq]
  intro c hc
  simp only [codes1, List.mem_cons, List.not_mem_nil, or_false] at hc
  rcases hc with rfl | rfl
  · exact w_c0
  · exact w_c1
set_option maxRecDepth 65536 in
theorem w_t1 : words1.all (fun c => isCode c || c.before args0 about1) = true := by decide +kernel
theorem w_tables : (allAtoms (Jvm.Cond.code x code maxLocals ret :: tables_1)).before args0 about1 = true := by
  rw [allAtoms_all]
  show words1.all (fun c => c.before args0 about1) = true
  refine all_split ?_ w_codes
  rw [w_t1]
set_option maxRecDepth 65536 in
theorem w_case : (Jvm.Cond.and given_1 narrow_1).before args0 about1 = true := by decide +kernel
theorem w_applies : (headSpec (Jvm.Cond.code x code maxLocals ret :: tables_1) room_1).applies x e0.platform about1 = true :=
  (Spec.applies_iff w_frames).mpr ⟨w_running, w_runnable, w_alone, w_named, w_hears, w_ripe, w_room, w_tables⟩
theorem atStart : AtStart classFile x code maxLocals ret World_1 tables_1 room_1 Calls_1 rest_1 Pre_1 launch0 p0 e0 about1 theMethod args0 below0 :=
  ⟨lists_1, trivial, launch0.admits_env _ _ _, launch0.least_env, fairChoices_fair.cas, fairChoices_fair.clock, w_frames, w_args, w_heap, w_applies, trivial, trivial, w_case⟩
end start1
theorem witness_1 : WitnessClaimed_1 := ⟨start1.p0, start1.e0, start1.about1, start1.theMethod, start1.args0, start1.below0, start1.atStart⟩
end Jvm.Pilot.@@N@@
