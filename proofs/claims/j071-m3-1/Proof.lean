import JvmDerived
import JvmDerived.Pilot.@@N@@Statement
import JvmDerived.Pilot.@@N@@Code
set_option linter.unusedVariables false
set_option linter.unusedSimpArgs false

namespace Jvm.Pilot.@@N@@
open Jvm Jvm.ClassFile Sem Op Lib Jvm.Free Jvm.Stand Jvm.LawKit Jvm.RoadKit Bundle Jvm.Pilot.@@N@@.Jvm.D


section OwnKit
variable {p : Program} {l : Launch} {e : Env} {R : Room} {s : State} {m : MethodId} {args : Array Value} {below : List Frame} {meth : Method} {c : Code} {T : State} {locs : List Loc} {cells slots : Nat} {h : Heap} {Q : Option Value → Heap → List Loc → Prop} {C S : Nat}
/-- from the state t the run comes to its end, and what it leaves answers Q -/
def own_Gl (p : Program) (e : Env) (below : List Frame) (s : State) (Q : Option Value → Heap → List Loc → Prop) (C S : Nat) (t : State) : Prop :=
  ∃ s₂ o, Steps p.tables e below t s₂ ∧ s₂.status = .running ∧ Ended s₂ below o ∧ ∃ v L, o = .returned v ∧ Q v s₂.heap L ∧ FrameEnd s o s₂ L C S
theorem own_st {t t' : State} (k : ∀ target, Steps p.tables e below t' target → Steps p.tables e below t target) (d : own_Gl p e below s Q C S t') : own_Gl p e below s Q C S t := by
  obtain ⟨s₂, o, h1, h2⟩ := d
  exact ⟨s₂, o, k _ h1, h2⟩
theorem own_tr {t t' : State} (k : Steps p.tables e below t t') (d : own_Gl p e below s Q C S t') : own_Gl p e below s Q C S t := own_st (fun _ h => k.trans h) d
theorem own_cast {g g' : JFrame} (q : g = g') (d : own_Gl p e below s Q C S (T.setTop g')) : own_Gl p e below s Q C S (T.setTop g) := q ▸ d
theorem own_ret (X : Stand p l e R s m args below meth c T locs cells slots) (hlk : meth.locks = false) {v : Option Value} {t : State} (hv : meth.sig.returnType = none → v = none) (eT : T.heap = h) (hq : Q v h locs) (hc : cells ≤ C) (hs : slots ≤ S)
    (k : ∀ fs, (∀ (f : JFrame) (acts : List Action), f.method = m → f.locked = none → f.entered = [] → (doReturn e (T.setTop f) acts v).1 = T.setFrames fs) → Steps p.tables e below t (T.setFrames fs)) : own_Gl p e below s Q C S t := by
  obtain ⟨fs, hr, hrun, hended, hW, hsame⟩ := X.leave hv hlk
  exact ⟨_, _, k fs hr, hrun, hended, v, locs, rfl, by show Q v T.heap locs; rw [eT]; exact hq, ⟨_, rfl⟩, hW, hsame.mono hc hs⟩
theorem own_retI (X : Stand p l e R s m args below meth c T locs cells slots) (hx : p.tables.exec = Jvm.exec) (hlk : meth.locks = false) {pc : Nat} {Ls : Array Slot} {z : Int32} {rest : List Value} (hret : meth.sig.returnType = some .int) (hd : decode c.code pc = .ok (.ireturn, 1)) (eT : T.heap = h) (hq : Q (some (.int z)) h locs) (hc : cells ≤ C) (hs : slots ≤ S) :
    own_Gl p e below s Q C S (T.setTop (mkF m pc Ls (.int z :: rest))) :=
  own_ret X hlk (fun q => by rw [hret] at q; cases q) eT hq hc hs (fun _ hr => retOut X hx hret rfl (Or.inl ⟨rfl, Or.inl rfl, _, rfl⟩) hd hr)
theorem own_retN (X : Stand p l e R s m args below meth c T locs cells slots) (hx : p.tables.exec = Jvm.exec) (hlk : meth.locks = false) {pc : Nat} {Ls : Array Slot} {z : Int32} {t : FieldType} {rest : List Value} (hret : meth.sig.returnType = some t) (ht : t = .boolean ∨ t = .byte ∨ t = .char ∨ t = .short) (hd : decode c.code pc = .ok (.ireturn, 1)) (eT : T.heap = h) (hq : Q (some (.int (nar t z))) h locs) (hc : cells ≤ C) (hs : slots ≤ S) :
    own_Gl p e below s Q C S (T.setTop (mkF m pc Ls (.int z :: rest))) :=
  own_ret X hlk (fun q => by rw [hret] at q; cases q) eT hq hc hs (fun _ hr => retN X hx hret ht hd hr)
theorem own_retJ (X : Stand p l e R s m args below meth c T locs cells slots) (hx : p.tables.exec = Jvm.exec) (hlk : meth.locks = false) {pc : Nat} {Ls : Array Slot} {z : Int64} {rest : List Value} (hret : meth.sig.returnType = some .long) (hd : decode c.code pc = .ok (.lreturn, 1)) (eT : T.heap = h) (hq : Q (some (.long z)) h locs) (hc : cells ≤ C) (hs : slots ≤ S) :
    own_Gl p e below s Q C S (T.setTop (mkF m pc Ls (.long z :: rest))) :=
  own_ret X hlk (fun q => by rw [hret] at q; cases q) eT hq hc hs (fun _ hr => retOut X hx hret rfl (Or.inr (Or.inl ⟨rfl, rfl, _, rfl⟩)) hd hr)
theorem own_retA (X : Stand p l e R s m args below meth c T locs cells slots) (hx : p.tables.exec = Jvm.exec) (hlk : meth.locks = false) {pc : Nat} {Ls : Array Slot} {w : Value} {t : FieldType} {rest : List Value} (hret : meth.sig.returnType = some t) (ht : t.isReference = true) (hw : w.isRef = true) (hn : narrow t w = w) (hd : decode c.code pc = .ok (.areturn, 1)) (eT : T.heap = h) (hq : Q (some w) h locs) (hc : cells ≤ C) (hs : slots ≤ S) :
    own_Gl p e below s Q C S (T.setTop (mkF m pc Ls (w :: rest))) :=
  own_ret X hlk (fun q => by rw [hret] at q; cases q) eT hq hc hs (fun _ hr => retOut X hx hret hn (Or.inr (Or.inr (Or.inr (Or.inr ⟨rfl, ht, hw⟩)))) hd hr)
theorem own_retV (X : Stand p l e R s m args below meth c T locs cells slots) (hx : p.tables.exec = Jvm.exec) (hlk : meth.locks = false) {pc : Nat} {Ls : Array Slot} (hret : meth.sig.returnType = none) (hd : decode c.code pc = .ok (.return_, 1)) (eT : T.heap = h) (hq : Q none h locs) (hc : cells ≤ C) (hs : slots ≤ S) :
    own_Gl p e below s Q C S (T.setTop (mkF m pc Ls [])) :=
  own_ret X hlk (fun _ => rfl) eT hq hc hs (fun _ hr => X.returnOut hx hret hd hr)
end OwnKit


theorem own_mono (a b : Int32) (h : ¬ (if (if b < a then b else a) < (1000 : Int32) then (0 : Int32) else (1 : Int32)) = (0 : Int32)) : ¬ (if (if a < b then b else a) < (1000 : Int32) then (0 : Int32) else (1 : Int32)) = (0 : Int32) := by
  have h1 : ¬ (if b < a then b else a) < (1000 : Int32) := fun q => h (if_pos q)
  have h2 : ¬ (if a < b then b else a) < (1000 : Int32) := by
    intro q
    apply h1
    rw [Int32.lt_iff_toInt_lt] at q ⊢
    split at q <;> split <;> simp only [Int32.lt_iff_toInt_lt] at * <;> omega
  rw [if_neg h2]; decide

theorem own_d_jdk_29_method_69_code_0 : decode jdk_29_method_69_code 0 = .ok (.iload_n 0, 1) := by decide +kernel
theorem own_d_jdk_29_method_69_code_1 : decode jdk_29_method_69_code 1 = .ok (.iload_n 1, 1) := by decide +kernel
theorem own_d_jdk_29_method_69_code_2 : decode jdk_29_method_69_code 2 = .ok (.if_icmp .gt 7, 3) := by decide +kernel
theorem own_d_jdk_29_method_69_code_9 : decode jdk_29_method_69_code 9 = .ok (.iload_n 1, 1) := by decide +kernel
theorem own_d_jdk_29_method_69_code_10 : decode jdk_29_method_69_code 10 = .ok (.ireturn, 1) := by decide +kernel
theorem own_d_jdk_29_method_69_code_5 : decode jdk_29_method_69_code 5 = .ok (.iload_n 0, 1) := by decide +kernel
theorem own_d_jdk_29_method_69_code_6 : decode jdk_29_method_69_code 6 = .ok (.goto 4, 3) := by decide +kernel
theorem own_ef_own_min (m : MethodId) (x0 : Int32) (x1 : Int32) : entryFrame m #[(.int x0), (.int x1)] 2 = mkF m 0 #[.val (.int x0), .val (.int x1)] [] := by first | (simp [entryFrame, mkF, argsToLocals, Value.category]; done) | rfl
def own_Q_own_min (Z : State) (p1 : Int32) (p2 : Int32) (h0 : Heap) (n0 : Nat) (v : Option Value) (h : Heap) (L : List Loc) : Prop := (v = some (.int (if p2 < p1 then p2 else p1))) ∧ (Fr n0 L) ∧ (h = h0)
set_option maxRecDepth 65536 in
set_option maxHeartbeats 40000000 in
theorem own_min (l : Launch) (Z : State) (a0 : Array Value) (hw : ∀ d ∈ tables_1, d.before a0 Z = true) (ws : List Jvm.Cond) (p1 : Int32) (p2 : Int32) (h0 : Heap) (n0 : Nat) (Z0 : n0 ≤ h0.size) :
    MetFree l (⟨"java/lang/Math", "min", "(II)I"⟩ : MethodName) (head1 (Jvm.Cond.code (⟨"java/lang/Math", "min", "(II)I"⟩ : MethodName) jdk_29_method_69_code 2 (some .int) :: ws) ({ frames := 0, cells := 0, slots := 0, locals := 0 } : Room)) (fun a U => a = #[(.int p1), (.int p2)] ∧ Z.Warmed39 U.vm ∧ U.heap = h0) (fun _ _ _ _ _ => True) (fun _ U o U' => ∃ v L, o = .returned v ∧ own_Q_own_min Z p1 p2 h0 n0 v U'.heap L ∧ FrameEnd U o U' L ({ frames := 0, cells := 0, slots := 0, locals := 0 } : Room).cells ({ frames := 0, cells := 0, slots := 0, locals := 0 } : Room).slots) := by
  refine MetFree.of_bodySF (Jvm.Free.JP.mathPlain rfl (by decide +kernel)) hisR ?_
  intro p e s m args below meth c s₁ Bd hml0 hP hK
  obtain ⟨rfl, hZ, hh⟩ := hP
  have hx := Bd.exec
  have hby := Bd.bytes
  have hlk := Bd.notSynchronized
  have hret := Bd.returns
  have hml : c.maxLocals = 2 := hml0
  have hown : s.vm.findClass "java/lang/Math" = some m.cls := findClass_of_methodNamed Bd.named
  have hnm := (name_of_methodNamed Bd.named Bd.method).1
  have X0 : Stand p l e ({ frames := 0, cells := 0, slots := 0, locals := 0 } : Room) s m #[(.int p1), (.int p2)] below meth c s₁ [] 0 0 := Stand.of_body Bd
  have e0 : s₁.heap = h0 := by rw [← hh, Bd.state]; rfl
  have N0 := Fr.nil n0
  show own_Gl p e below s (own_Q_own_min Z p1 p2 h0 n0) ({ frames := 0, cells := 0, slots := 0, locals := 0 } : Room).cells ({ frames := 0, cells := 0, slots := 0, locals := 0 } : Room).slots _
  refine own_cast (own_ef_own_min m p1 p2) ?_
  show own_Gl _ _ _ _ _ _ _ (s₁.setTop (mkF m 0 #[.val (.int p1), .val (.int p2)] []))
  refine own_st (fun _ k => XS.iloadN X0.here hx rfl (hb hby own_d_jdk_29_method_69_code_0) rfl k) ?_
  show own_Gl _ _ _ _ _ _ _ (s₁.setTop (mkF m 1 #[.val (.int p1), .val (.int p2)] [(.int p1)]))
  refine own_st (fun _ k => XS.iloadN X0.here hx rfl (hb hby own_d_jdk_29_method_69_code_1) rfl k) ?_
  show own_Gl _ _ _ _ _ _ _ (s₁.setTop (mkF m 2 #[.val (.int p1), .val (.int p2)] [(.int p2), (.int p1)]))
  by_cases hc2 : p2 < p1
  · refine own_st (fun _ k => XS.icmpYes X0.here hx rfl (pc0 := 2) (pc' := 9) rfl (hb hby own_d_jdk_29_method_69_code_2) rfl (tlt hc2).2.2.1 (by decide) (by decide) k) ?_
    show own_Gl _ _ _ _ _ _ _ (s₁.setTop (mkF m 9 #[.val (.int p1), .val (.int p2)] []))
    refine own_st (fun _ k => XS.iloadN X0.here hx rfl (hb hby own_d_jdk_29_method_69_code_9) rfl k) ?_
    show own_Gl _ _ _ _ _ _ _ (s₁.setTop (mkF m 10 #[.val (.int p1), .val (.int p2)] [(.int p2)]))
    exact own_retI X0 hx hlk hret (hb hby own_d_jdk_29_method_69_code_10) e0 ⟨by simp [hc2], N0, rfl⟩ (by decide) (by decide)
  · refine own_st (fun _ k => XS.icmpNo X0.here hx rfl (hb hby own_d_jdk_29_method_69_code_2) rfl (flt hc2).2.2.1 k) ?_
    show own_Gl _ _ _ _ _ _ _ (s₁.setTop (mkF m 5 #[.val (.int p1), .val (.int p2)] []))
    refine own_st (fun _ k => XS.iloadN X0.here hx rfl (hb hby own_d_jdk_29_method_69_code_5) rfl k) ?_
    show own_Gl _ _ _ _ _ _ _ (s₁.setTop (mkF m 6 #[.val (.int p1), .val (.int p2)] [(.int p1)]))
    refine own_st (fun _ k => XS.goto X0.here hx rfl (pc0 := 6) (pc' := 10) rfl (hb hby own_d_jdk_29_method_69_code_6) (by decide) (by decide) k) ?_
    show own_Gl _ _ _ _ _ _ _ (s₁.setTop (mkF m 10 #[.val (.int p1), .val (.int p2)] [(.int p1)]))
    exact own_retI X0 hx hlk hret (hb hby own_d_jdk_29_method_69_code_10) e0 ⟨by simp [hc2], N0, rfl⟩ (by decide) (by decide)
theorem own_d_jdk_29_method_65_code_0 : decode jdk_29_method_65_code 0 = .ok (.iload_n 0, 1) := by decide +kernel
theorem own_d_jdk_29_method_65_code_1 : decode jdk_29_method_65_code 1 = .ok (.iload_n 1, 1) := by decide +kernel
theorem own_d_jdk_29_method_65_code_2 : decode jdk_29_method_65_code 2 = .ok (.if_icmp .lt 7, 3) := by decide +kernel
theorem own_d_jdk_29_method_65_code_9 : decode jdk_29_method_65_code 9 = .ok (.iload_n 1, 1) := by decide +kernel
theorem own_d_jdk_29_method_65_code_10 : decode jdk_29_method_65_code 10 = .ok (.ireturn, 1) := by decide +kernel
theorem own_d_jdk_29_method_65_code_5 : decode jdk_29_method_65_code 5 = .ok (.iload_n 0, 1) := by decide +kernel
theorem own_d_jdk_29_method_65_code_6 : decode jdk_29_method_65_code 6 = .ok (.goto 4, 3) := by decide +kernel
theorem own_ef_own_max (m : MethodId) (x0 : Int32) (x1 : Int32) : entryFrame m #[(.int x0), (.int x1)] 2 = mkF m 0 #[.val (.int x0), .val (.int x1)] [] := by first | (simp [entryFrame, mkF, argsToLocals, Value.category]; done) | rfl
def own_Q_own_max (Z : State) (p1 : Int32) (p2 : Int32) (h0 : Heap) (n0 : Nat) (v : Option Value) (h : Heap) (L : List Loc) : Prop := (v = some (.int (if p1 < p2 then p2 else p1))) ∧ (Fr n0 L) ∧ (h = h0)
set_option maxRecDepth 65536 in
set_option maxHeartbeats 40000000 in
theorem own_max (l : Launch) (Z : State) (a0 : Array Value) (hw : ∀ d ∈ tables_1, d.before a0 Z = true) (ws : List Jvm.Cond) (p1 : Int32) (p2 : Int32) (h0 : Heap) (n0 : Nat) (Z0 : n0 ≤ h0.size) :
    MetFree l (⟨"java/lang/Math", "max", "(II)I"⟩ : MethodName) (head1 (Jvm.Cond.code (⟨"java/lang/Math", "max", "(II)I"⟩ : MethodName) jdk_29_method_65_code 2 (some .int) :: ws) ({ frames := 0, cells := 0, slots := 0, locals := 0 } : Room)) (fun a U => a = #[(.int p1), (.int p2)] ∧ Z.Warmed39 U.vm ∧ U.heap = h0) (fun _ _ _ _ _ => True) (fun _ U o U' => ∃ v L, o = .returned v ∧ own_Q_own_max Z p1 p2 h0 n0 v U'.heap L ∧ FrameEnd U o U' L ({ frames := 0, cells := 0, slots := 0, locals := 0 } : Room).cells ({ frames := 0, cells := 0, slots := 0, locals := 0 } : Room).slots) := by
  refine MetFree.of_bodySF (Jvm.Free.JP.mathPlain rfl (by decide +kernel)) hisR ?_
  intro p e s m args below meth c s₁ Bd hml0 hP hK
  obtain ⟨rfl, hZ, hh⟩ := hP
  have hx := Bd.exec
  have hby := Bd.bytes
  have hlk := Bd.notSynchronized
  have hret := Bd.returns
  have hml : c.maxLocals = 2 := hml0
  have hown : s.vm.findClass "java/lang/Math" = some m.cls := findClass_of_methodNamed Bd.named
  have hnm := (name_of_methodNamed Bd.named Bd.method).1
  have X0 : Stand p l e ({ frames := 0, cells := 0, slots := 0, locals := 0 } : Room) s m #[(.int p1), (.int p2)] below meth c s₁ [] 0 0 := Stand.of_body Bd
  have e0 : s₁.heap = h0 := by rw [← hh, Bd.state]; rfl
  have N0 := Fr.nil n0
  show own_Gl p e below s (own_Q_own_max Z p1 p2 h0 n0) ({ frames := 0, cells := 0, slots := 0, locals := 0 } : Room).cells ({ frames := 0, cells := 0, slots := 0, locals := 0 } : Room).slots _
  refine own_cast (own_ef_own_max m p1 p2) ?_
  show own_Gl _ _ _ _ _ _ _ (s₁.setTop (mkF m 0 #[.val (.int p1), .val (.int p2)] []))
  refine own_st (fun _ k => XS.iloadN X0.here hx rfl (hb hby own_d_jdk_29_method_65_code_0) rfl k) ?_
  show own_Gl _ _ _ _ _ _ _ (s₁.setTop (mkF m 1 #[.val (.int p1), .val (.int p2)] [(.int p1)]))
  refine own_st (fun _ k => XS.iloadN X0.here hx rfl (hb hby own_d_jdk_29_method_65_code_1) rfl k) ?_
  show own_Gl _ _ _ _ _ _ _ (s₁.setTop (mkF m 2 #[.val (.int p1), .val (.int p2)] [(.int p2), (.int p1)]))
  by_cases hc2 : p1 < p2
  · refine own_st (fun _ k => XS.icmpYes X0.here hx rfl (pc0 := 2) (pc' := 9) rfl (hb hby own_d_jdk_29_method_65_code_2) rfl (tlt hc2).1 (by decide) (by decide) k) ?_
    show own_Gl _ _ _ _ _ _ _ (s₁.setTop (mkF m 9 #[.val (.int p1), .val (.int p2)] []))
    refine own_st (fun _ k => XS.iloadN X0.here hx rfl (hb hby own_d_jdk_29_method_65_code_9) rfl k) ?_
    show own_Gl _ _ _ _ _ _ _ (s₁.setTop (mkF m 10 #[.val (.int p1), .val (.int p2)] [(.int p2)]))
    exact own_retI X0 hx hlk hret (hb hby own_d_jdk_29_method_65_code_10) e0 ⟨by simp [hc2], N0, rfl⟩ (by decide) (by decide)
  · refine own_st (fun _ k => XS.icmpNo X0.here hx rfl (hb hby own_d_jdk_29_method_65_code_2) rfl (flt hc2).1 k) ?_
    show own_Gl _ _ _ _ _ _ _ (s₁.setTop (mkF m 5 #[.val (.int p1), .val (.int p2)] []))
    refine own_st (fun _ k => XS.iloadN X0.here hx rfl (hb hby own_d_jdk_29_method_65_code_5) rfl k) ?_
    show own_Gl _ _ _ _ _ _ _ (s₁.setTop (mkF m 6 #[.val (.int p1), .val (.int p2)] [(.int p1)]))
    refine own_st (fun _ k => XS.goto X0.here hx rfl (pc0 := 6) (pc' := 10) rfl (hb hby own_d_jdk_29_method_65_code_6) (by decide) (by decide) k) ?_
    show own_Gl _ _ _ _ _ _ _ (s₁.setTop (mkF m 10 #[.val (.int p1), .val (.int p2)] [(.int p1)]))
    exact own_retI X0 hx hlk hret (hb hby own_d_jdk_29_method_65_code_10) e0 ⟨by simp [hc2], N0, rfl⟩ (by decide) (by decide)
theorem own_d_prog_36_method_4_code_0 : decode prog_36_method_4_code 0 = .ok (.iload_n 0, 1) := by decide +kernel
theorem own_d_prog_36_method_4_code_1 : decode prog_36_method_4_code 1 = .ok (.sipush 1000, 3) := by decide +kernel
theorem own_d_prog_36_method_4_code_4 : decode prog_36_method_4_code 4 = .ok (.if_icmp .lt 7, 3) := by decide +kernel
theorem own_d_prog_36_method_4_code_11 : decode prog_36_method_4_code 11 = .ok (.iconst 0, 1) := by decide +kernel
theorem own_d_prog_36_method_4_code_12 : decode prog_36_method_4_code 12 = .ok (.ireturn, 1) := by decide +kernel
theorem own_d_prog_36_method_4_code_7 : decode prog_36_method_4_code 7 = .ok (.iconst 1, 1) := by decide +kernel
theorem own_d_prog_36_method_4_code_8 : decode prog_36_method_4_code 8 = .ok (.goto 4, 3) := by decide +kernel
theorem own_ef_own_rep (m : MethodId) (x0 : Int32) : entryFrame m #[(.int x0)] 1 = mkF m 0 #[.val (.int x0)] [] := by first | (simp [entryFrame, mkF, argsToLocals, Value.category]; done) | rfl
def own_Q_own_rep (Z : State) (p1 : Int32) (h0 : Heap) (n0 : Nat) (v : Option Value) (h : Heap) (L : List Loc) : Prop := (v = some (.int (if p1 < (1000 : Int32) then (0 : Int32) else (1 : Int32)))) ∧ (Fr n0 L) ∧ (h = h0)
theorem own_pn143734406 : plainName "com/example/brolga/brolga/check/CdaSchema" = true := by first | (simp [plainName, overriddenIn]; done) | decide +kernel
set_option maxRecDepth 65536 in
set_option maxHeartbeats 40000000 in
theorem own_rep (l : Launch) (Z : State) (a0 : Array Value) (hw : ∀ d ∈ tables_1, d.before a0 Z = true) (ws : List Jvm.Cond) (p1 : Int32) (h0 : Heap) (n0 : Nat) (Z0 : n0 ≤ h0.size) :
    MetFree l (⟨"com/example/brolga/brolga/check/CdaSchema", "repaysRewriting", "(I)Z"⟩ : MethodName) (head1 (Jvm.Cond.code (⟨"com/example/brolga/brolga/check/CdaSchema", "repaysRewriting", "(I)Z"⟩ : MethodName) prog_36_method_4_code 1 (some .boolean) :: ws) ({ frames := 0, cells := 0, slots := 0, locals := 0 } : Room)) (fun a U => a = #[(.int p1)] ∧ Z.Warmed39 U.vm ∧ U.heap = h0) (fun _ _ _ _ _ => True) (fun _ U o U' => ∃ v L, o = .returned v ∧ own_Q_own_rep Z p1 h0 n0 v U'.heap L ∧ FrameEnd U o U' L ({ frames := 0, cells := 0, slots := 0, locals := 0 } : Room).cells ({ frames := 0, cells := 0, slots := 0, locals := 0 } : Room).slots) := by
  refine MetFree.of_bodySF (plainFor_of_name own_pn143734406) hisR ?_
  intro p e s m args below meth c s₁ Bd hml0 hP hK
  obtain ⟨rfl, hZ, hh⟩ := hP
  have hx := Bd.exec
  have hby := Bd.bytes
  have hlk := Bd.notSynchronized
  have hret := Bd.returns
  have hml : c.maxLocals = 1 := hml0
  have hown : s.vm.findClass "com/example/brolga/brolga/check/CdaSchema" = some m.cls := findClass_of_methodNamed Bd.named
  have hnm := (name_of_methodNamed Bd.named Bd.method).1
  have X0 : Stand p l e ({ frames := 0, cells := 0, slots := 0, locals := 0 } : Room) s m #[(.int p1)] below meth c s₁ [] 0 0 := Stand.of_body Bd
  have e0 : s₁.heap = h0 := by rw [← hh, Bd.state]; rfl
  have N0 := Fr.nil n0
  show own_Gl p e below s (own_Q_own_rep Z p1 h0 n0) ({ frames := 0, cells := 0, slots := 0, locals := 0 } : Room).cells ({ frames := 0, cells := 0, slots := 0, locals := 0 } : Room).slots _
  refine own_cast (own_ef_own_rep m p1) ?_
  show own_Gl _ _ _ _ _ _ _ (s₁.setTop (mkF m 0 #[.val (.int p1)] []))
  refine own_st (fun _ k => XS.iloadN X0.here hx rfl (hb hby own_d_prog_36_method_4_code_0) rfl k) ?_
  show own_Gl _ _ _ _ _ _ _ (s₁.setTop (mkF m 1 #[.val (.int p1)] [(.int p1)]))
  refine own_st (fun _ k => XS.sipush X0.here hx rfl (hb hby own_d_prog_36_method_4_code_1) k) ?_
  show own_Gl _ _ _ _ _ _ _ (s₁.setTop (mkF m 4 #[.val (.int p1)] [(.int (1000 : Int32)), (.int p1)]))
  by_cases hc4 : p1 < (1000 : Int32)
  · refine own_st (fun _ k => XS.icmpYes X0.here hx rfl (pc0 := 4) (pc' := 11) rfl (hb hby own_d_prog_36_method_4_code_4) rfl (tlt hc4).1 (by decide) (by decide) k) ?_
    show own_Gl _ _ _ _ _ _ _ (s₁.setTop (mkF m 11 #[.val (.int p1)] []))
    refine own_st (fun _ k => XS.iconst X0.here hx rfl (hb hby own_d_prog_36_method_4_code_11) k) ?_
    show own_Gl _ _ _ _ _ _ _ (s₁.setTop (mkF m 12 #[.val (.int p1)] [(.int (0 : Int32))]))
    exact own_retN X0 hx hlk (t := .boolean) hret (by simp) (hb hby own_d_prog_36_method_4_code_12) e0 ⟨by rw [if_pos hc4]; rfl, N0, rfl⟩ (by decide) (by decide)
  · refine own_st (fun _ k => XS.icmpNo X0.here hx rfl (hb hby own_d_prog_36_method_4_code_4) rfl (flt hc4).1 k) ?_
    show own_Gl _ _ _ _ _ _ _ (s₁.setTop (mkF m 7 #[.val (.int p1)] []))
    refine own_st (fun _ k => XS.iconst X0.here hx rfl (hb hby own_d_prog_36_method_4_code_7) k) ?_
    show own_Gl _ _ _ _ _ _ _ (s₁.setTop (mkF m 8 #[.val (.int p1)] [(.int (1 : Int32))]))
    refine own_st (fun _ k => XS.goto X0.here hx rfl (pc0 := 8) (pc' := 12) rfl (hb hby own_d_prog_36_method_4_code_8) (by decide) (by decide) k) ?_
    show own_Gl _ _ _ _ _ _ _ (s₁.setTop (mkF m 12 #[.val (.int p1)] [(.int (1 : Int32))]))
    exact own_retN X0 hx hlk (t := .boolean) hret (by simp) (hb hby own_d_prog_36_method_4_code_12) e0 ⟨by rw [if_neg hc4]; rfl, N0, rfl⟩ (by decide) (by decide)
theorem own_pd945365680 : parseMethodDescriptor "(II)I" = some ⟨[.int, .int], some .int⟩ := by decide +kernel
theorem own_pd91181854 : parseMethodDescriptor "(I)Z" = some ⟨[.int], some .boolean⟩ := by decide +kernel
theorem own_ef_own_law (m : MethodId) (x0 : Int32) (x1 : Int32) : entryFrame m #[(.int x0), (.int x1)] maxLocals = mkF m 0 #[.val (.int x0), .val (.int x1), .unset, .unset, .unset, .unset, .unset, .unset, .unset] [] := by first | (simp [entryFrame, mkF, argsToLocals, Value.category, maxLocals]; done) | rfl
def own_Q_own_law (Z : State) (p1 : Int32) (p2 : Int32) (h0 : Heap) (n0 : Nat) (v : Option Value) (h : Heap) (L : List Loc) : Prop := v = some (.int 1) ∧ Fr n0 L
theorem own_pn88348845 : plainName "com/example/brolga/brolga/check/CdaSchemaRepaysRewritingPinLaw" = true := by first | (simp [plainName, overriddenIn]; done) | decide +kernel
set_option maxRecDepth 65536 in
set_option maxHeartbeats 40000000 in
theorem own_law (l : Launch) (Z : State) (a0 : Array Value) (hw : ∀ d ∈ tables_1, d.before a0 Z = true) (ws : List Jvm.Cond) (p1 : Int32) (p2 : Int32) (h0 : Heap) (n0 : Nat) (Z0 : n0 ≤ h0.size) :
    MetFree l x (head1 (Jvm.Cond.code x code maxLocals ret :: ws) room_1) (fun a U => a = #[(.int p1), (.int p2)] ∧ Z.Warmed39 U.vm ∧ U.heap = h0) (fun _ _ _ _ _ => True) (fun _ U o U' => ∃ v L, o = .returned v ∧ own_Q_own_law Z p1 p2 h0 n0 v U'.heap L ∧ FrameEnd U o U' L room_1.cells room_1.slots) := by
  refine MetFree.of_bodySF (plainFor_of_name own_pn88348845) hisR ?_
  intro p e s m args below meth c s₁ Bd hml0 hP hK
  obtain ⟨rfl, hZ, hh⟩ := hP
  have hx := Bd.exec
  have hby := Bd.bytes
  have hlk := Bd.notSynchronized
  have hret := Bd.returns
  have hml : c.maxLocals = 9 := hml0
  have hown : s.vm.findClass "com/example/brolga/brolga/check/CdaSchemaRepaysRewritingPinLaw" = some m.cls := findClass_of_methodNamed Bd.named
  have hnm := (name_of_methodNamed Bd.named Bd.method).1
  have X0 : Stand p l e room_1 s m #[(.int p1), (.int p2)] below meth c s₁ [] 0 0 := Stand.of_body Bd
  have e0 : s₁.heap = h0 := by rw [← hh, Bd.state]; rfl
  have N0 := Fr.nil n0
  show own_Gl p e below s (own_Q_own_law Z p1 p2 h0 n0) room_1.cells room_1.slots _
  refine own_cast (own_ef_own_law m p1 p2) ?_
  show own_Gl _ _ _ _ _ _ _ (s₁.setTop (mkF m 0 #[.val (.int p1), .val (.int p2), .unset, .unset, .unset, .unset, .unset, .unset, .unset] []))
  refine own_st (fun _ k => XS.iloadN X0.here hx rfl (hb hby at_0) rfl k) ?_
  show own_Gl _ _ _ _ _ _ _ (s₁.setTop (mkF m 1 #[.val (.int p1), .val (.int p2), .unset, .unset, .unset, .unset, .unset, .unset, .unset] [(.int p1)]))
  refine own_st (fun _ k => XS.iloadN X0.here hx rfl (hb hby at_1) rfl k) ?_
  show own_Gl _ _ _ _ _ _ _ (s₁.setTop (mkF m 2 #[.val (.int p1), .val (.int p2), .unset, .unset, .unset, .unset, .unset, .unset, .unset] [(.int p2), (.int p1)]))
  obtain ⟨_, _, ⟨T1, L1, k1, n1⟩, -, X1, ⟨Lc1, hQ1, l1, y1, z1⟩, st1⟩ := Jvm.LawKit.callS X0 hx (y := (⟨"java/lang/Math", "min", "(II)I"⟩ : MethodName)) hown (mvT hZ (hw _ (List.mem_of_getElem? (i := 0) rfl))) (mvT hZ (hw _ (List.mem_of_getElem? (i := 1) rfl))) (mvT hZ (hw _ (List.mem_of_getElem? (i := 2) rfl))) (mvT hZ (hw _ (List.mem_of_getElem? (i := 3) rfl))) (by decide) (backOf (W := 0) (own_min l Z a0 hw [] p1 p2 h0 n0 Z0 ) hZ (hw _ (List.mem_of_getElem? (i := 3) rfl)) (hw _ (List.mem_of_getElem? (i := 2) rfl)) (by decide) (by decide)) (g := (mkF m 2 #[.val (.int p1), .val (.int p2), .unset, .unset, .unset, .unset, .unset, .unset, .unset] [(.int p2), (.int p1)])) rfl (by rw [hml]; rfl) (argsL := [(.int p1), (.int p2)]) (rest := []) (lenOf own_pd945365680 rfl) rfl (by show 2 * 0 + _ ≤ _; exact Nat.le_of_eq rfl) (hb hby at_2) (fun _ _ => ⟨rfl, e0, (by decide : 0 + 0 ≤ room_1.cells), (by decide : 0 + 0 ≤ room_1.slots)⟩)
  dsimp only [Pt.U, Pt.locs, Pt.cells, Pt.slots] at X1 l1 y1 z1 st1 hQ1
  subst l1 y1 z1
  obtain ⟨hh1, eh01⟩ : ∃ z, T1.heap = z := ⟨_, rfl⟩
  rw [eh01] at hQ1
  obtain ⟨rfl, Nq1, eh1⟩ := hQ1
  have N1 := Fr.app N0 Nq1
  refine own_st st1 ?_
  have e1 : T1.heap = h0 := eh01.trans eh1
  show own_Gl _ _ _ _ _ _ _ (T1.setTop (mkF m 5 #[.val (.int p1), .val (.int p2), .unset, .unset, .unset, .unset, .unset, .unset, .unset] [(.int (if p2 < p1 then p2 else p1))]))
  refine own_st (fun _ k => XS.istoreN X1.here hx rfl (hb hby at_5) rfl (l' := #[.val (.int p1), .val (.int p2), .val (.int (if p2 < p1 then p2 else p1)), .unset, .unset, .unset, .unset, .unset, .unset]) rfl k) ?_
  show own_Gl _ _ _ _ _ _ _ (T1.setTop (mkF m 6 #[.val (.int p1), .val (.int p2), .val (.int (if p2 < p1 then p2 else p1)), .unset, .unset, .unset, .unset, .unset, .unset] []))
  refine own_st (fun _ k => XS.iloadN X1.here hx rfl (hb hby at_6) rfl k) ?_
  show own_Gl _ _ _ _ _ _ _ (T1.setTop (mkF m 7 #[.val (.int p1), .val (.int p2), .val (.int (if p2 < p1 then p2 else p1)), .unset, .unset, .unset, .unset, .unset, .unset] [(.int p1)]))
  refine own_st (fun _ k => XS.iloadN X1.here hx rfl (hb hby at_7) rfl k) ?_
  show own_Gl _ _ _ _ _ _ _ (T1.setTop (mkF m 8 #[.val (.int p1), .val (.int p2), .val (.int (if p2 < p1 then p2 else p1)), .unset, .unset, .unset, .unset, .unset, .unset] [(.int p2), (.int p1)]))
  obtain ⟨_, _, ⟨T2, L2, k2, n2⟩, -, X2, ⟨Lc2, hQ2, l2, y2, z2⟩, st2⟩ := Jvm.LawKit.callS X1 hx (y := (⟨"java/lang/Math", "max", "(II)I"⟩ : MethodName)) hown (mvT hZ (hw _ (List.mem_of_getElem? (i := 4) rfl))) (mvT hZ (hw _ (List.mem_of_getElem? (i := 5) rfl))) (mvT hZ (hw _ (List.mem_of_getElem? (i := 2) rfl))) (mvT hZ (hw _ (List.mem_of_getElem? (i := 6) rfl))) (by decide) (backOf (W := 0) (own_max l Z a0 hw [] p1 p2 h0 n0 Z0 ) hZ (hw _ (List.mem_of_getElem? (i := 6) rfl)) (hw _ (List.mem_of_getElem? (i := 2) rfl)) (by decide) (by decide)) (g := (mkF m 8 #[.val (.int p1), .val (.int p2), .val (.int (if p2 < p1 then p2 else p1)), .unset, .unset, .unset, .unset, .unset, .unset] [(.int p2), (.int p1)])) rfl (by rw [hml]; rfl) (argsL := [(.int p1), (.int p2)]) (rest := []) (lenOf own_pd945365680 rfl) rfl (by show 2 * 0 + _ ≤ _; exact Nat.le_of_eq rfl) (hb hby at_8) (fun _ _ => ⟨rfl, e1, (by decide : 0 + 0 ≤ room_1.cells), (by decide : 0 + 0 ≤ room_1.slots)⟩)
  dsimp only [Pt.U, Pt.locs, Pt.cells, Pt.slots] at X2 l2 y2 z2 st2 hQ2
  subst l2 y2 z2
  obtain ⟨hh2, eh02⟩ : ∃ z, T2.heap = z := ⟨_, rfl⟩
  rw [eh02] at hQ2
  obtain ⟨rfl, Nq2, eh2⟩ := hQ2
  have N2 := Fr.app N1 Nq2
  refine own_st st2 ?_
  have e2 : T2.heap = h0 := eh02.trans eh2
  show own_Gl _ _ _ _ _ _ _ (T2.setTop (mkF m 11 #[.val (.int p1), .val (.int p2), .val (.int (if p2 < p1 then p2 else p1)), .unset, .unset, .unset, .unset, .unset, .unset] [(.int (if p1 < p2 then p2 else p1))]))
  refine own_st (fun _ k => XS.istoreN X2.here hx rfl (hb hby at_11) rfl (l' := #[.val (.int p1), .val (.int p2), .val (.int (if p2 < p1 then p2 else p1)), .val (.int (if p1 < p2 then p2 else p1)), .unset, .unset, .unset, .unset, .unset]) rfl k) ?_
  show own_Gl _ _ _ _ _ _ _ (T2.setTop (mkF m 12 #[.val (.int p1), .val (.int p2), .val (.int (if p2 < p1 then p2 else p1)), .val (.int (if p1 < p2 then p2 else p1)), .unset, .unset, .unset, .unset, .unset] []))
  refine own_st (fun _ k => XS.iloadN X2.here hx rfl (hb hby at_12) rfl k) ?_
  show own_Gl _ _ _ _ _ _ _ (T2.setTop (mkF m 13 #[.val (.int p1), .val (.int p2), .val (.int (if p2 < p1 then p2 else p1)), .val (.int (if p1 < p2 then p2 else p1)), .unset, .unset, .unset, .unset, .unset] [(.int (if p2 < p1 then p2 else p1))]))
  obtain ⟨_, _, ⟨T3, L3, k3, n3⟩, -, X3, ⟨Lc3, hQ3, l3, y3, z3⟩, st3⟩ := Jvm.LawKit.callS X2 hx (y := (⟨"com/example/brolga/brolga/check/CdaSchema", "repaysRewriting", "(I)Z"⟩ : MethodName)) hown (mvT hZ (hw _ (List.mem_of_getElem? (i := 7) rfl))) (mvT hZ (hw _ (List.mem_of_getElem? (i := 8) rfl))) (mvT hZ (hw _ (List.mem_of_getElem? (i := 9) rfl))) (mvT hZ (hw _ (List.mem_of_getElem? (i := 10) rfl))) (by decide) (backOf (W := 0) (own_rep l Z a0 hw [] (if p2 < p1 then p2 else p1) h0 n0 Z0 ) hZ (hw _ (List.mem_of_getElem? (i := 10) rfl)) (hw _ (List.mem_of_getElem? (i := 9) rfl)) (by decide) (by decide)) (g := (mkF m 13 #[.val (.int p1), .val (.int p2), .val (.int (if p2 < p1 then p2 else p1)), .val (.int (if p1 < p2 then p2 else p1)), .unset, .unset, .unset, .unset, .unset] [(.int (if p2 < p1 then p2 else p1))])) rfl (by rw [hml]; rfl) (argsL := [(.int (if p2 < p1 then p2 else p1))]) (rest := []) (lenOf own_pd91181854 rfl) rfl (by show 2 * 0 + _ ≤ _; exact Nat.le_of_eq rfl) (hb hby at_13) (fun _ _ => ⟨rfl, e2, (by decide : 0 + 0 ≤ room_1.cells), (by decide : 0 + 0 ≤ room_1.slots)⟩)
  dsimp only [Pt.U, Pt.locs, Pt.cells, Pt.slots] at X3 l3 y3 z3 st3 hQ3
  subst l3 y3 z3
  obtain ⟨hh3, eh03⟩ : ∃ z, T3.heap = z := ⟨_, rfl⟩
  rw [eh03] at hQ3
  obtain ⟨rfl, Nq3, eh3⟩ := hQ3
  have N3 := Fr.app N2 Nq3
  refine own_st st3 ?_
  have e3 : T3.heap = h0 := eh03.trans eh3
  show own_Gl _ _ _ _ _ _ _ (T3.setTop (mkF m 16 #[.val (.int p1), .val (.int p2), .val (.int (if p2 < p1 then p2 else p1)), .val (.int (if p1 < p2 then p2 else p1)), .unset, .unset, .unset, .unset, .unset] [(.int (if (if p2 < p1 then p2 else p1) < (1000 : Int32) then (0 : Int32) else (1 : Int32)))]))
  refine own_st (fun _ k => XS.istore X3.here hx rfl (hb hby at_16) rfl (l' := #[.val (.int p1), .val (.int p2), .val (.int (if p2 < p1 then p2 else p1)), .val (.int (if p1 < p2 then p2 else p1)), .val (.int (if (if p2 < p1 then p2 else p1) < (1000 : Int32) then (0 : Int32) else (1 : Int32))), .unset, .unset, .unset, .unset]) rfl k) ?_
  show own_Gl _ _ _ _ _ _ _ (T3.setTop (mkF m 18 #[.val (.int p1), .val (.int p2), .val (.int (if p2 < p1 then p2 else p1)), .val (.int (if p1 < p2 then p2 else p1)), .val (.int (if (if p2 < p1 then p2 else p1) < (1000 : Int32) then (0 : Int32) else (1 : Int32))), .unset, .unset, .unset, .unset] []))
  refine own_st (fun _ k => XS.iloadN X3.here hx rfl (hb hby at_18) rfl k) ?_
  show own_Gl _ _ _ _ _ _ _ (T3.setTop (mkF m 19 #[.val (.int p1), .val (.int p2), .val (.int (if p2 < p1 then p2 else p1)), .val (.int (if p1 < p2 then p2 else p1)), .val (.int (if (if p2 < p1 then p2 else p1) < (1000 : Int32) then (0 : Int32) else (1 : Int32))), .unset, .unset, .unset, .unset] [(.int (if p1 < p2 then p2 else p1))]))
  obtain ⟨_, _, ⟨T4, L4, k4, n4⟩, -, X4, ⟨Lc4, hQ4, l4, y4, z4⟩, st4⟩ := Jvm.LawKit.callS X3 hx (y := (⟨"com/example/brolga/brolga/check/CdaSchema", "repaysRewriting", "(I)Z"⟩ : MethodName)) hown (mvT hZ (hw _ (List.mem_of_getElem? (i := 7) rfl))) (mvT hZ (hw _ (List.mem_of_getElem? (i := 8) rfl))) (mvT hZ (hw _ (List.mem_of_getElem? (i := 9) rfl))) (mvT hZ (hw _ (List.mem_of_getElem? (i := 10) rfl))) (by decide) (backOf (W := 0) (own_rep l Z a0 hw [] (if p1 < p2 then p2 else p1) h0 n0 Z0 ) hZ (hw _ (List.mem_of_getElem? (i := 10) rfl)) (hw _ (List.mem_of_getElem? (i := 9) rfl)) (by decide) (by decide)) (g := (mkF m 19 #[.val (.int p1), .val (.int p2), .val (.int (if p2 < p1 then p2 else p1)), .val (.int (if p1 < p2 then p2 else p1)), .val (.int (if (if p2 < p1 then p2 else p1) < (1000 : Int32) then (0 : Int32) else (1 : Int32))), .unset, .unset, .unset, .unset] [(.int (if p1 < p2 then p2 else p1))])) rfl (by rw [hml]; rfl) (argsL := [(.int (if p1 < p2 then p2 else p1))]) (rest := []) (lenOf own_pd91181854 rfl) rfl (by show 2 * 0 + _ ≤ _; exact Nat.le_of_eq rfl) (hb hby at_19) (fun _ _ => ⟨rfl, e3, (by decide : 0 + 0 ≤ room_1.cells), (by decide : 0 + 0 ≤ room_1.slots)⟩)
  dsimp only [Pt.U, Pt.locs, Pt.cells, Pt.slots] at X4 l4 y4 z4 st4 hQ4
  subst l4 y4 z4
  obtain ⟨hh4, eh04⟩ : ∃ z, T4.heap = z := ⟨_, rfl⟩
  rw [eh04] at hQ4
  obtain ⟨rfl, Nq4, eh4⟩ := hQ4
  have N4 := Fr.app N3 Nq4
  refine own_st st4 ?_
  have e4 : T4.heap = h0 := eh04.trans eh4
  show own_Gl _ _ _ _ _ _ _ (T4.setTop (mkF m 22 #[.val (.int p1), .val (.int p2), .val (.int (if p2 < p1 then p2 else p1)), .val (.int (if p1 < p2 then p2 else p1)), .val (.int (if (if p2 < p1 then p2 else p1) < (1000 : Int32) then (0 : Int32) else (1 : Int32))), .unset, .unset, .unset, .unset] [(.int (if (if p1 < p2 then p2 else p1) < (1000 : Int32) then (0 : Int32) else (1 : Int32)))]))
  refine own_st (fun _ k => XS.istore X4.here hx rfl (hb hby at_22) rfl (l' := #[.val (.int p1), .val (.int p2), .val (.int (if p2 < p1 then p2 else p1)), .val (.int (if p1 < p2 then p2 else p1)), .val (.int (if (if p2 < p1 then p2 else p1) < (1000 : Int32) then (0 : Int32) else (1 : Int32))), .val (.int (if (if p1 < p2 then p2 else p1) < (1000 : Int32) then (0 : Int32) else (1 : Int32))), .unset, .unset, .unset]) rfl k) ?_
  show own_Gl _ _ _ _ _ _ _ (T4.setTop (mkF m 24 #[.val (.int p1), .val (.int p2), .val (.int (if p2 < p1 then p2 else p1)), .val (.int (if p1 < p2 then p2 else p1)), .val (.int (if (if p2 < p1 then p2 else p1) < (1000 : Int32) then (0 : Int32) else (1 : Int32))), .val (.int (if (if p1 < p2 then p2 else p1) < (1000 : Int32) then (0 : Int32) else (1 : Int32))), .unset, .unset, .unset] []))
  refine own_st (fun _ k => XS.iload X4.here hx rfl (hb hby at_24) rfl k) ?_
  show own_Gl _ _ _ _ _ _ _ (T4.setTop (mkF m 26 #[.val (.int p1), .val (.int p2), .val (.int (if p2 < p1 then p2 else p1)), .val (.int (if p1 < p2 then p2 else p1)), .val (.int (if (if p2 < p1 then p2 else p1) < (1000 : Int32) then (0 : Int32) else (1 : Int32))), .val (.int (if (if p1 < p2 then p2 else p1) < (1000 : Int32) then (0 : Int32) else (1 : Int32))), .unset, .unset, .unset] [(.int (if (if p2 < p1 then p2 else p1) < (1000 : Int32) then (0 : Int32) else (1 : Int32)))]))
  by_cases hc26 : (if (if p2 < p1 then p2 else p1) < (1000 : Int32) then (0 : Int32) else (1 : Int32)) = (0 : Int32)
  · refine own_st (fun _ k => XS.ifYes X4.here hx rfl (pc0 := 26) (pc' := 34) rfl (hb hby at_26) rfl ((if0 _ _).trans (teq hc26).1) (by decide) (by decide) k) ?_
    show own_Gl _ _ _ _ _ _ _ (T4.setTop (mkF m 34 #[.val (.int p1), .val (.int p2), .val (.int (if p2 < p1 then p2 else p1)), .val (.int (if p1 < p2 then p2 else p1)), .val (.int (if (if p2 < p1 then p2 else p1) < (1000 : Int32) then (0 : Int32) else (1 : Int32))), .val (.int (if (if p1 < p2 then p2 else p1) < (1000 : Int32) then (0 : Int32) else (1 : Int32))), .unset, .unset, .unset] []))
    refine own_st (fun _ k => XS.iconst X4.here hx rfl (hb hby at_34) k) ?_
    show own_Gl _ _ _ _ _ _ _ (T4.setTop (mkF m 35 #[.val (.int p1), .val (.int p2), .val (.int (if p2 < p1 then p2 else p1)), .val (.int (if p1 < p2 then p2 else p1)), .val (.int (if (if p2 < p1 then p2 else p1) < (1000 : Int32) then (0 : Int32) else (1 : Int32))), .val (.int (if (if p1 < p2 then p2 else p1) < (1000 : Int32) then (0 : Int32) else (1 : Int32))), .unset, .unset, .unset] [(.int (1 : Int32))]))
    refine own_st (fun _ k => XS.goto X4.here hx rfl (pc0 := 35) (pc' := 39) rfl (hb hby at_35) (by decide) (by decide) k) ?_
    show own_Gl _ _ _ _ _ _ _ (T4.setTop (mkF m 39 #[.val (.int p1), .val (.int p2), .val (.int (if p2 < p1 then p2 else p1)), .val (.int (if p1 < p2 then p2 else p1)), .val (.int (if (if p2 < p1 then p2 else p1) < (1000 : Int32) then (0 : Int32) else (1 : Int32))), .val (.int (if (if p1 < p2 then p2 else p1) < (1000 : Int32) then (0 : Int32) else (1 : Int32))), .unset, .unset, .unset] [(.int (1 : Int32))]))
    refine own_st (fun _ k => XS.istore X4.here hx rfl (hb hby at_39) rfl (l' := #[.val (.int p1), .val (.int p2), .val (.int (if p2 < p1 then p2 else p1)), .val (.int (if p1 < p2 then p2 else p1)), .val (.int (if (if p2 < p1 then p2 else p1) < (1000 : Int32) then (0 : Int32) else (1 : Int32))), .val (.int (if (if p1 < p2 then p2 else p1) < (1000 : Int32) then (0 : Int32) else (1 : Int32))), .val (.int (1 : Int32)), .unset, .unset]) rfl k) ?_
    show own_Gl _ _ _ _ _ _ _ (T4.setTop (mkF m 41 #[.val (.int p1), .val (.int p2), .val (.int (if p2 < p1 then p2 else p1)), .val (.int (if p1 < p2 then p2 else p1)), .val (.int (if (if p2 < p1 then p2 else p1) < (1000 : Int32) then (0 : Int32) else (1 : Int32))), .val (.int (if (if p1 < p2 then p2 else p1) < (1000 : Int32) then (0 : Int32) else (1 : Int32))), .val (.int (1 : Int32)), .unset, .unset] []))
    refine own_st (fun _ k => XS.sipush X4.here hx rfl (hb hby at_41) k) ?_
    show own_Gl _ _ _ _ _ _ _ (T4.setTop (mkF m 44 #[.val (.int p1), .val (.int p2), .val (.int (if p2 < p1 then p2 else p1)), .val (.int (if p1 < p2 then p2 else p1)), .val (.int (if (if p2 < p1 then p2 else p1) < (1000 : Int32) then (0 : Int32) else (1 : Int32))), .val (.int (if (if p1 < p2 then p2 else p1) < (1000 : Int32) then (0 : Int32) else (1 : Int32))), .val (.int (1 : Int32)), .unset, .unset] [(.int (999 : Int32))]))
    obtain ⟨_, _, ⟨T5, L5, k5, n5⟩, -, X5, ⟨Lc5, hQ5, l5, y5, z5⟩, st5⟩ := Jvm.LawKit.callS X4 hx (y := (⟨"com/example/brolga/brolga/check/CdaSchema", "repaysRewriting", "(I)Z"⟩ : MethodName)) hown (mvT hZ (hw _ (List.mem_of_getElem? (i := 7) rfl))) (mvT hZ (hw _ (List.mem_of_getElem? (i := 8) rfl))) (mvT hZ (hw _ (List.mem_of_getElem? (i := 9) rfl))) (mvT hZ (hw _ (List.mem_of_getElem? (i := 10) rfl))) (by decide) (backOf (W := 0) (own_rep l Z a0 hw [] (999 : Int32) h0 n0 Z0 ) hZ (hw _ (List.mem_of_getElem? (i := 10) rfl)) (hw _ (List.mem_of_getElem? (i := 9) rfl)) (by decide) (by decide)) (g := (mkF m 44 #[.val (.int p1), .val (.int p2), .val (.int (if p2 < p1 then p2 else p1)), .val (.int (if p1 < p2 then p2 else p1)), .val (.int (if (if p2 < p1 then p2 else p1) < (1000 : Int32) then (0 : Int32) else (1 : Int32))), .val (.int (if (if p1 < p2 then p2 else p1) < (1000 : Int32) then (0 : Int32) else (1 : Int32))), .val (.int (1 : Int32)), .unset, .unset] [(.int (999 : Int32))])) rfl (by rw [hml]; rfl) (argsL := [(.int (999 : Int32))]) (rest := []) (lenOf own_pd91181854 rfl) rfl (by show 2 * 0 + _ ≤ _; exact Nat.le_of_eq rfl) (hb hby at_44) (fun _ _ => ⟨rfl, e4, (by decide : 0 + 0 ≤ room_1.cells), (by decide : 0 + 0 ≤ room_1.slots)⟩)
    dsimp only [Pt.U, Pt.locs, Pt.cells, Pt.slots] at X5 l5 y5 z5 st5 hQ5
    subst l5 y5 z5
    obtain ⟨hh5, eh05⟩ : ∃ z, T5.heap = z := ⟨_, rfl⟩
    rw [eh05] at hQ5
    obtain ⟨rfl, Nq5, eh5⟩ := hQ5
    have N5 := Fr.app N4 Nq5
    refine own_st st5 ?_
    have e5 : T5.heap = h0 := eh05.trans eh5
    show own_Gl _ _ _ _ _ _ _ (T5.setTop (mkF m 47 #[.val (.int p1), .val (.int p2), .val (.int (if p2 < p1 then p2 else p1)), .val (.int (if p1 < p2 then p2 else p1)), .val (.int (if (if p2 < p1 then p2 else p1) < (1000 : Int32) then (0 : Int32) else (1 : Int32))), .val (.int (if (if p1 < p2 then p2 else p1) < (1000 : Int32) then (0 : Int32) else (1 : Int32))), .val (.int (1 : Int32)), .unset, .unset] [(.int (if (999 : Int32) < (1000 : Int32) then (0 : Int32) else (1 : Int32)))]))
    have hd6 : (if (999 : Int32) < (1000 : Int32) then (0 : Int32) else (1 : Int32)) = (0 : Int32) := (by decide)
    refine own_st (fun _ k => XS.ifNo X5.here hx rfl (hb hby at_47) rfl ((if0 _ _).trans (teq hd6).2) k) ?_
    show own_Gl _ _ _ _ _ _ _ (T5.setTop (mkF m 50 #[.val (.int p1), .val (.int p2), .val (.int (if p2 < p1 then p2 else p1)), .val (.int (if p1 < p2 then p2 else p1)), .val (.int (if (if p2 < p1 then p2 else p1) < (1000 : Int32) then (0 : Int32) else (1 : Int32))), .val (.int (if (if p1 < p2 then p2 else p1) < (1000 : Int32) then (0 : Int32) else (1 : Int32))), .val (.int (1 : Int32)), .unset, .unset] []))
    refine own_st (fun _ k => XS.iconst X5.here hx rfl (hb hby at_50) k) ?_
    show own_Gl _ _ _ _ _ _ _ (T5.setTop (mkF m 51 #[.val (.int p1), .val (.int p2), .val (.int (if p2 < p1 then p2 else p1)), .val (.int (if p1 < p2 then p2 else p1)), .val (.int (if (if p2 < p1 then p2 else p1) < (1000 : Int32) then (0 : Int32) else (1 : Int32))), .val (.int (if (if p1 < p2 then p2 else p1) < (1000 : Int32) then (0 : Int32) else (1 : Int32))), .val (.int (1 : Int32)), .unset, .unset] [(.int (1 : Int32))]))
    refine own_st (fun _ k => XS.goto X5.here hx rfl (pc0 := 51) (pc' := 55) rfl (hb hby at_51) (by decide) (by decide) k) ?_
    show own_Gl _ _ _ _ _ _ _ (T5.setTop (mkF m 55 #[.val (.int p1), .val (.int p2), .val (.int (if p2 < p1 then p2 else p1)), .val (.int (if p1 < p2 then p2 else p1)), .val (.int (if (if p2 < p1 then p2 else p1) < (1000 : Int32) then (0 : Int32) else (1 : Int32))), .val (.int (if (if p1 < p2 then p2 else p1) < (1000 : Int32) then (0 : Int32) else (1 : Int32))), .val (.int (1 : Int32)), .unset, .unset] [(.int (1 : Int32))]))
    refine own_st (fun _ k => XS.istore X5.here hx rfl (hb hby at_55) rfl (l' := #[.val (.int p1), .val (.int p2), .val (.int (if p2 < p1 then p2 else p1)), .val (.int (if p1 < p2 then p2 else p1)), .val (.int (if (if p2 < p1 then p2 else p1) < (1000 : Int32) then (0 : Int32) else (1 : Int32))), .val (.int (if (if p1 < p2 then p2 else p1) < (1000 : Int32) then (0 : Int32) else (1 : Int32))), .val (.int (1 : Int32)), .val (.int (1 : Int32)), .unset]) rfl k) ?_
    show own_Gl _ _ _ _ _ _ _ (T5.setTop (mkF m 57 #[.val (.int p1), .val (.int p2), .val (.int (if p2 < p1 then p2 else p1)), .val (.int (if p1 < p2 then p2 else p1)), .val (.int (if (if p2 < p1 then p2 else p1) < (1000 : Int32) then (0 : Int32) else (1 : Int32))), .val (.int (if (if p1 < p2 then p2 else p1) < (1000 : Int32) then (0 : Int32) else (1 : Int32))), .val (.int (1 : Int32)), .val (.int (1 : Int32)), .unset] []))
    refine own_st (fun _ k => XS.sipush X5.here hx rfl (hb hby at_57) k) ?_
    show own_Gl _ _ _ _ _ _ _ (T5.setTop (mkF m 60 #[.val (.int p1), .val (.int p2), .val (.int (if p2 < p1 then p2 else p1)), .val (.int (if p1 < p2 then p2 else p1)), .val (.int (if (if p2 < p1 then p2 else p1) < (1000 : Int32) then (0 : Int32) else (1 : Int32))), .val (.int (if (if p1 < p2 then p2 else p1) < (1000 : Int32) then (0 : Int32) else (1 : Int32))), .val (.int (1 : Int32)), .val (.int (1 : Int32)), .unset] [(.int (1000 : Int32))]))
    obtain ⟨_, _, ⟨T7, L7, k7, n7⟩, -, X7, ⟨Lc7, hQ7, l7, y7, z7⟩, st7⟩ := Jvm.LawKit.callS X5 hx (y := (⟨"com/example/brolga/brolga/check/CdaSchema", "repaysRewriting", "(I)Z"⟩ : MethodName)) hown (mvT hZ (hw _ (List.mem_of_getElem? (i := 7) rfl))) (mvT hZ (hw _ (List.mem_of_getElem? (i := 8) rfl))) (mvT hZ (hw _ (List.mem_of_getElem? (i := 9) rfl))) (mvT hZ (hw _ (List.mem_of_getElem? (i := 10) rfl))) (by decide) (backOf (W := 0) (own_rep l Z a0 hw [] (1000 : Int32) h0 n0 Z0 ) hZ (hw _ (List.mem_of_getElem? (i := 10) rfl)) (hw _ (List.mem_of_getElem? (i := 9) rfl)) (by decide) (by decide)) (g := (mkF m 60 #[.val (.int p1), .val (.int p2), .val (.int (if p2 < p1 then p2 else p1)), .val (.int (if p1 < p2 then p2 else p1)), .val (.int (if (if p2 < p1 then p2 else p1) < (1000 : Int32) then (0 : Int32) else (1 : Int32))), .val (.int (if (if p1 < p2 then p2 else p1) < (1000 : Int32) then (0 : Int32) else (1 : Int32))), .val (.int (1 : Int32)), .val (.int (1 : Int32)), .unset] [(.int (1000 : Int32))])) rfl (by rw [hml]; rfl) (argsL := [(.int (1000 : Int32))]) (rest := []) (lenOf own_pd91181854 rfl) rfl (by show 2 * 0 + _ ≤ _; exact Nat.le_of_eq rfl) (hb hby at_60) (fun _ _ => ⟨rfl, e5, (by decide : 0 + 0 ≤ room_1.cells), (by decide : 0 + 0 ≤ room_1.slots)⟩)
    dsimp only [Pt.U, Pt.locs, Pt.cells, Pt.slots] at X7 l7 y7 z7 st7 hQ7
    subst l7 y7 z7
    obtain ⟨hh7, eh07⟩ : ∃ z, T7.heap = z := ⟨_, rfl⟩
    rw [eh07] at hQ7
    obtain ⟨rfl, Nq7, eh7⟩ := hQ7
    have N7 := Fr.app N5 Nq7
    refine own_st st7 ?_
    have e7 : T7.heap = h0 := eh07.trans eh7
    show own_Gl _ _ _ _ _ _ _ (T7.setTop (mkF m 63 #[.val (.int p1), .val (.int p2), .val (.int (if p2 < p1 then p2 else p1)), .val (.int (if p1 < p2 then p2 else p1)), .val (.int (if (if p2 < p1 then p2 else p1) < (1000 : Int32) then (0 : Int32) else (1 : Int32))), .val (.int (if (if p1 < p2 then p2 else p1) < (1000 : Int32) then (0 : Int32) else (1 : Int32))), .val (.int (1 : Int32)), .val (.int (1 : Int32)), .unset] [(.int (if (1000 : Int32) < (1000 : Int32) then (0 : Int32) else (1 : Int32)))]))
    refine own_st (fun _ k => XS.istore X7.here hx rfl (hb hby at_63) rfl (l' := #[.val (.int p1), .val (.int p2), .val (.int (if p2 < p1 then p2 else p1)), .val (.int (if p1 < p2 then p2 else p1)), .val (.int (if (if p2 < p1 then p2 else p1) < (1000 : Int32) then (0 : Int32) else (1 : Int32))), .val (.int (if (if p1 < p2 then p2 else p1) < (1000 : Int32) then (0 : Int32) else (1 : Int32))), .val (.int (1 : Int32)), .val (.int (1 : Int32)), .val (.int (if (1000 : Int32) < (1000 : Int32) then (0 : Int32) else (1 : Int32)))]) rfl k) ?_
    show own_Gl _ _ _ _ _ _ _ (T7.setTop (mkF m 65 #[.val (.int p1), .val (.int p2), .val (.int (if p2 < p1 then p2 else p1)), .val (.int (if p1 < p2 then p2 else p1)), .val (.int (if (if p2 < p1 then p2 else p1) < (1000 : Int32) then (0 : Int32) else (1 : Int32))), .val (.int (if (if p1 < p2 then p2 else p1) < (1000 : Int32) then (0 : Int32) else (1 : Int32))), .val (.int (1 : Int32)), .val (.int (1 : Int32)), .val (.int (if (1000 : Int32) < (1000 : Int32) then (0 : Int32) else (1 : Int32)))] []))
    refine own_st (fun _ k => XS.iload X7.here hx rfl (hb hby at_65) rfl k) ?_
    show own_Gl _ _ _ _ _ _ _ (T7.setTop (mkF m 67 #[.val (.int p1), .val (.int p2), .val (.int (if p2 < p1 then p2 else p1)), .val (.int (if p1 < p2 then p2 else p1)), .val (.int (if (if p2 < p1 then p2 else p1) < (1000 : Int32) then (0 : Int32) else (1 : Int32))), .val (.int (if (if p1 < p2 then p2 else p1) < (1000 : Int32) then (0 : Int32) else (1 : Int32))), .val (.int (1 : Int32)), .val (.int (1 : Int32)), .val (.int (if (1000 : Int32) < (1000 : Int32) then (0 : Int32) else (1 : Int32)))] [(.int (1 : Int32))]))
    have hd8 : ¬ ((1 : Int32) = (0 : Int32)) := (by decide)
    refine own_st (fun _ k => XS.ifNo X7.here hx rfl (hb hby at_67) rfl ((if0 _ _).trans (feq hd8).1) k) ?_
    show own_Gl _ _ _ _ _ _ _ (T7.setTop (mkF m 70 #[.val (.int p1), .val (.int p2), .val (.int (if p2 < p1 then p2 else p1)), .val (.int (if p1 < p2 then p2 else p1)), .val (.int (if (if p2 < p1 then p2 else p1) < (1000 : Int32) then (0 : Int32) else (1 : Int32))), .val (.int (if (if p1 < p2 then p2 else p1) < (1000 : Int32) then (0 : Int32) else (1 : Int32))), .val (.int (1 : Int32)), .val (.int (1 : Int32)), .val (.int (if (1000 : Int32) < (1000 : Int32) then (0 : Int32) else (1 : Int32)))] []))
    refine own_st (fun _ k => XS.iload X7.here hx rfl (hb hby at_70) rfl k) ?_
    show own_Gl _ _ _ _ _ _ _ (T7.setTop (mkF m 72 #[.val (.int p1), .val (.int p2), .val (.int (if p2 < p1 then p2 else p1)), .val (.int (if p1 < p2 then p2 else p1)), .val (.int (if (if p2 < p1 then p2 else p1) < (1000 : Int32) then (0 : Int32) else (1 : Int32))), .val (.int (if (if p1 < p2 then p2 else p1) < (1000 : Int32) then (0 : Int32) else (1 : Int32))), .val (.int (1 : Int32)), .val (.int (1 : Int32)), .val (.int (if (1000 : Int32) < (1000 : Int32) then (0 : Int32) else (1 : Int32)))] [(.int (1 : Int32))]))
    have hd9 : ¬ ((1 : Int32) = (0 : Int32)) := (by decide)
    refine own_st (fun _ k => XS.ifNo X7.here hx rfl (hb hby at_72) rfl ((if0 _ _).trans (feq hd9).1) k) ?_
    show own_Gl _ _ _ _ _ _ _ (T7.setTop (mkF m 75 #[.val (.int p1), .val (.int p2), .val (.int (if p2 < p1 then p2 else p1)), .val (.int (if p1 < p2 then p2 else p1)), .val (.int (if (if p2 < p1 then p2 else p1) < (1000 : Int32) then (0 : Int32) else (1 : Int32))), .val (.int (if (if p1 < p2 then p2 else p1) < (1000 : Int32) then (0 : Int32) else (1 : Int32))), .val (.int (1 : Int32)), .val (.int (1 : Int32)), .val (.int (if (1000 : Int32) < (1000 : Int32) then (0 : Int32) else (1 : Int32)))] []))
    refine own_st (fun _ k => XS.iload X7.here hx rfl (hb hby at_75) rfl k) ?_
    show own_Gl _ _ _ _ _ _ _ (T7.setTop (mkF m 77 #[.val (.int p1), .val (.int p2), .val (.int (if p2 < p1 then p2 else p1)), .val (.int (if p1 < p2 then p2 else p1)), .val (.int (if (if p2 < p1 then p2 else p1) < (1000 : Int32) then (0 : Int32) else (1 : Int32))), .val (.int (if (if p1 < p2 then p2 else p1) < (1000 : Int32) then (0 : Int32) else (1 : Int32))), .val (.int (1 : Int32)), .val (.int (1 : Int32)), .val (.int (if (1000 : Int32) < (1000 : Int32) then (0 : Int32) else (1 : Int32)))] [(.int (if (1000 : Int32) < (1000 : Int32) then (0 : Int32) else (1 : Int32)))]))
    have hd10 : ¬ ((if (1000 : Int32) < (1000 : Int32) then (0 : Int32) else (1 : Int32)) = (0 : Int32)) := (by decide)
    refine own_st (fun _ k => XS.ifNo X7.here hx rfl (hb hby at_77) rfl ((if0 _ _).trans (feq hd10).1) k) ?_
    show own_Gl _ _ _ _ _ _ _ (T7.setTop (mkF m 80 #[.val (.int p1), .val (.int p2), .val (.int (if p2 < p1 then p2 else p1)), .val (.int (if p1 < p2 then p2 else p1)), .val (.int (if (if p2 < p1 then p2 else p1) < (1000 : Int32) then (0 : Int32) else (1 : Int32))), .val (.int (if (if p1 < p2 then p2 else p1) < (1000 : Int32) then (0 : Int32) else (1 : Int32))), .val (.int (1 : Int32)), .val (.int (1 : Int32)), .val (.int (if (1000 : Int32) < (1000 : Int32) then (0 : Int32) else (1 : Int32)))] []))
    refine own_st (fun _ k => XS.iconst X7.here hx rfl (hb hby at_80) k) ?_
    show own_Gl _ _ _ _ _ _ _ (T7.setTop (mkF m 81 #[.val (.int p1), .val (.int p2), .val (.int (if p2 < p1 then p2 else p1)), .val (.int (if p1 < p2 then p2 else p1)), .val (.int (if (if p2 < p1 then p2 else p1) < (1000 : Int32) then (0 : Int32) else (1 : Int32))), .val (.int (if (if p1 < p2 then p2 else p1) < (1000 : Int32) then (0 : Int32) else (1 : Int32))), .val (.int (1 : Int32)), .val (.int (1 : Int32)), .val (.int (if (1000 : Int32) < (1000 : Int32) then (0 : Int32) else (1 : Int32)))] [(.int (1 : Int32))]))
    refine own_st (fun _ k => XS.goto X7.here hx rfl (pc0 := 81) (pc' := 85) rfl (hb hby at_81) (by decide) (by decide) k) ?_
    show own_Gl _ _ _ _ _ _ _ (T7.setTop (mkF m 85 #[.val (.int p1), .val (.int p2), .val (.int (if p2 < p1 then p2 else p1)), .val (.int (if p1 < p2 then p2 else p1)), .val (.int (if (if p2 < p1 then p2 else p1) < (1000 : Int32) then (0 : Int32) else (1 : Int32))), .val (.int (if (if p1 < p2 then p2 else p1) < (1000 : Int32) then (0 : Int32) else (1 : Int32))), .val (.int (1 : Int32)), .val (.int (1 : Int32)), .val (.int (if (1000 : Int32) < (1000 : Int32) then (0 : Int32) else (1 : Int32)))] [(.int (1 : Int32))]))
    exact own_retN X7 hx hlk (t := .boolean) hret (by simp) (hb hby at_85) e7 ⟨rfl, N7⟩ (by decide) (by decide)
  · refine own_st (fun _ k => XS.ifNo X4.here hx rfl (hb hby at_26) rfl ((if0 _ _).trans (feq hc26).1) k) ?_
    show own_Gl _ _ _ _ _ _ _ (T4.setTop (mkF m 29 #[.val (.int p1), .val (.int p2), .val (.int (if p2 < p1 then p2 else p1)), .val (.int (if p1 < p2 then p2 else p1)), .val (.int (if (if p2 < p1 then p2 else p1) < (1000 : Int32) then (0 : Int32) else (1 : Int32))), .val (.int (if (if p1 < p2 then p2 else p1) < (1000 : Int32) then (0 : Int32) else (1 : Int32))), .unset, .unset, .unset] []))
    refine own_st (fun _ k => XS.iload X4.here hx rfl (hb hby at_29) rfl k) ?_
    show own_Gl _ _ _ _ _ _ _ (T4.setTop (mkF m 31 #[.val (.int p1), .val (.int p2), .val (.int (if p2 < p1 then p2 else p1)), .val (.int (if p1 < p2 then p2 else p1)), .val (.int (if (if p2 < p1 then p2 else p1) < (1000 : Int32) then (0 : Int32) else (1 : Int32))), .val (.int (if (if p1 < p2 then p2 else p1) < (1000 : Int32) then (0 : Int32) else (1 : Int32))), .unset, .unset, .unset] [(.int (if (if p1 < p2 then p2 else p1) < (1000 : Int32) then (0 : Int32) else (1 : Int32)))]))
    have hd11 : ¬ ((if (if p1 < p2 then p2 else p1) < (1000 : Int32) then (0 : Int32) else (1 : Int32)) = (0 : Int32)) := own_mono _ _ hc26
    refine own_st (fun _ k => XS.ifNo X4.here hx rfl (hb hby at_31) rfl ((if0 _ _).trans (feq hd11).1) k) ?_
    show own_Gl _ _ _ _ _ _ _ (T4.setTop (mkF m 34 #[.val (.int p1), .val (.int p2), .val (.int (if p2 < p1 then p2 else p1)), .val (.int (if p1 < p2 then p2 else p1)), .val (.int (if (if p2 < p1 then p2 else p1) < (1000 : Int32) then (0 : Int32) else (1 : Int32))), .val (.int (if (if p1 < p2 then p2 else p1) < (1000 : Int32) then (0 : Int32) else (1 : Int32))), .unset, .unset, .unset] []))
    refine own_st (fun _ k => XS.iconst X4.here hx rfl (hb hby at_34) k) ?_
    show own_Gl _ _ _ _ _ _ _ (T4.setTop (mkF m 35 #[.val (.int p1), .val (.int p2), .val (.int (if p2 < p1 then p2 else p1)), .val (.int (if p1 < p2 then p2 else p1)), .val (.int (if (if p2 < p1 then p2 else p1) < (1000 : Int32) then (0 : Int32) else (1 : Int32))), .val (.int (if (if p1 < p2 then p2 else p1) < (1000 : Int32) then (0 : Int32) else (1 : Int32))), .unset, .unset, .unset] [(.int (1 : Int32))]))
    refine own_st (fun _ k => XS.goto X4.here hx rfl (pc0 := 35) (pc' := 39) rfl (hb hby at_35) (by decide) (by decide) k) ?_
    show own_Gl _ _ _ _ _ _ _ (T4.setTop (mkF m 39 #[.val (.int p1), .val (.int p2), .val (.int (if p2 < p1 then p2 else p1)), .val (.int (if p1 < p2 then p2 else p1)), .val (.int (if (if p2 < p1 then p2 else p1) < (1000 : Int32) then (0 : Int32) else (1 : Int32))), .val (.int (if (if p1 < p2 then p2 else p1) < (1000 : Int32) then (0 : Int32) else (1 : Int32))), .unset, .unset, .unset] [(.int (1 : Int32))]))
    refine own_st (fun _ k => XS.istore X4.here hx rfl (hb hby at_39) rfl (l' := #[.val (.int p1), .val (.int p2), .val (.int (if p2 < p1 then p2 else p1)), .val (.int (if p1 < p2 then p2 else p1)), .val (.int (if (if p2 < p1 then p2 else p1) < (1000 : Int32) then (0 : Int32) else (1 : Int32))), .val (.int (if (if p1 < p2 then p2 else p1) < (1000 : Int32) then (0 : Int32) else (1 : Int32))), .val (.int (1 : Int32)), .unset, .unset]) rfl k) ?_
    show own_Gl _ _ _ _ _ _ _ (T4.setTop (mkF m 41 #[.val (.int p1), .val (.int p2), .val (.int (if p2 < p1 then p2 else p1)), .val (.int (if p1 < p2 then p2 else p1)), .val (.int (if (if p2 < p1 then p2 else p1) < (1000 : Int32) then (0 : Int32) else (1 : Int32))), .val (.int (if (if p1 < p2 then p2 else p1) < (1000 : Int32) then (0 : Int32) else (1 : Int32))), .val (.int (1 : Int32)), .unset, .unset] []))
    refine own_st (fun _ k => XS.sipush X4.here hx rfl (hb hby at_41) k) ?_
    show own_Gl _ _ _ _ _ _ _ (T4.setTop (mkF m 44 #[.val (.int p1), .val (.int p2), .val (.int (if p2 < p1 then p2 else p1)), .val (.int (if p1 < p2 then p2 else p1)), .val (.int (if (if p2 < p1 then p2 else p1) < (1000 : Int32) then (0 : Int32) else (1 : Int32))), .val (.int (if (if p1 < p2 then p2 else p1) < (1000 : Int32) then (0 : Int32) else (1 : Int32))), .val (.int (1 : Int32)), .unset, .unset] [(.int (999 : Int32))]))
    obtain ⟨_, _, ⟨T12, L12, k12, n12⟩, -, X12, ⟨Lc12, hQ12, l12, y12, z12⟩, st12⟩ := Jvm.LawKit.callS X4 hx (y := (⟨"com/example/brolga/brolga/check/CdaSchema", "repaysRewriting", "(I)Z"⟩ : MethodName)) hown (mvT hZ (hw _ (List.mem_of_getElem? (i := 7) rfl))) (mvT hZ (hw _ (List.mem_of_getElem? (i := 8) rfl))) (mvT hZ (hw _ (List.mem_of_getElem? (i := 9) rfl))) (mvT hZ (hw _ (List.mem_of_getElem? (i := 10) rfl))) (by decide) (backOf (W := 0) (own_rep l Z a0 hw [] (999 : Int32) h0 n0 Z0 ) hZ (hw _ (List.mem_of_getElem? (i := 10) rfl)) (hw _ (List.mem_of_getElem? (i := 9) rfl)) (by decide) (by decide)) (g := (mkF m 44 #[.val (.int p1), .val (.int p2), .val (.int (if p2 < p1 then p2 else p1)), .val (.int (if p1 < p2 then p2 else p1)), .val (.int (if (if p2 < p1 then p2 else p1) < (1000 : Int32) then (0 : Int32) else (1 : Int32))), .val (.int (if (if p1 < p2 then p2 else p1) < (1000 : Int32) then (0 : Int32) else (1 : Int32))), .val (.int (1 : Int32)), .unset, .unset] [(.int (999 : Int32))])) rfl (by rw [hml]; rfl) (argsL := [(.int (999 : Int32))]) (rest := []) (lenOf own_pd91181854 rfl) rfl (by show 2 * 0 + _ ≤ _; exact Nat.le_of_eq rfl) (hb hby at_44) (fun _ _ => ⟨rfl, e4, (by decide : 0 + 0 ≤ room_1.cells), (by decide : 0 + 0 ≤ room_1.slots)⟩)
    dsimp only [Pt.U, Pt.locs, Pt.cells, Pt.slots] at X12 l12 y12 z12 st12 hQ12
    subst l12 y12 z12
    obtain ⟨hh12, eh012⟩ : ∃ z, T12.heap = z := ⟨_, rfl⟩
    rw [eh012] at hQ12
    obtain ⟨rfl, Nq12, eh12⟩ := hQ12
    have N12 := Fr.app N4 Nq12
    refine own_st st12 ?_
    have e12 : T12.heap = h0 := eh012.trans eh12
    show own_Gl _ _ _ _ _ _ _ (T12.setTop (mkF m 47 #[.val (.int p1), .val (.int p2), .val (.int (if p2 < p1 then p2 else p1)), .val (.int (if p1 < p2 then p2 else p1)), .val (.int (if (if p2 < p1 then p2 else p1) < (1000 : Int32) then (0 : Int32) else (1 : Int32))), .val (.int (if (if p1 < p2 then p2 else p1) < (1000 : Int32) then (0 : Int32) else (1 : Int32))), .val (.int (1 : Int32)), .unset, .unset] [(.int (if (999 : Int32) < (1000 : Int32) then (0 : Int32) else (1 : Int32)))]))
    have hd13 : (if (999 : Int32) < (1000 : Int32) then (0 : Int32) else (1 : Int32)) = (0 : Int32) := (by decide)
    refine own_st (fun _ k => XS.ifNo X12.here hx rfl (hb hby at_47) rfl ((if0 _ _).trans (teq hd13).2) k) ?_
    show own_Gl _ _ _ _ _ _ _ (T12.setTop (mkF m 50 #[.val (.int p1), .val (.int p2), .val (.int (if p2 < p1 then p2 else p1)), .val (.int (if p1 < p2 then p2 else p1)), .val (.int (if (if p2 < p1 then p2 else p1) < (1000 : Int32) then (0 : Int32) else (1 : Int32))), .val (.int (if (if p1 < p2 then p2 else p1) < (1000 : Int32) then (0 : Int32) else (1 : Int32))), .val (.int (1 : Int32)), .unset, .unset] []))
    refine own_st (fun _ k => XS.iconst X12.here hx rfl (hb hby at_50) k) ?_
    show own_Gl _ _ _ _ _ _ _ (T12.setTop (mkF m 51 #[.val (.int p1), .val (.int p2), .val (.int (if p2 < p1 then p2 else p1)), .val (.int (if p1 < p2 then p2 else p1)), .val (.int (if (if p2 < p1 then p2 else p1) < (1000 : Int32) then (0 : Int32) else (1 : Int32))), .val (.int (if (if p1 < p2 then p2 else p1) < (1000 : Int32) then (0 : Int32) else (1 : Int32))), .val (.int (1 : Int32)), .unset, .unset] [(.int (1 : Int32))]))
    refine own_st (fun _ k => XS.goto X12.here hx rfl (pc0 := 51) (pc' := 55) rfl (hb hby at_51) (by decide) (by decide) k) ?_
    show own_Gl _ _ _ _ _ _ _ (T12.setTop (mkF m 55 #[.val (.int p1), .val (.int p2), .val (.int (if p2 < p1 then p2 else p1)), .val (.int (if p1 < p2 then p2 else p1)), .val (.int (if (if p2 < p1 then p2 else p1) < (1000 : Int32) then (0 : Int32) else (1 : Int32))), .val (.int (if (if p1 < p2 then p2 else p1) < (1000 : Int32) then (0 : Int32) else (1 : Int32))), .val (.int (1 : Int32)), .unset, .unset] [(.int (1 : Int32))]))
    refine own_st (fun _ k => XS.istore X12.here hx rfl (hb hby at_55) rfl (l' := #[.val (.int p1), .val (.int p2), .val (.int (if p2 < p1 then p2 else p1)), .val (.int (if p1 < p2 then p2 else p1)), .val (.int (if (if p2 < p1 then p2 else p1) < (1000 : Int32) then (0 : Int32) else (1 : Int32))), .val (.int (if (if p1 < p2 then p2 else p1) < (1000 : Int32) then (0 : Int32) else (1 : Int32))), .val (.int (1 : Int32)), .val (.int (1 : Int32)), .unset]) rfl k) ?_
    show own_Gl _ _ _ _ _ _ _ (T12.setTop (mkF m 57 #[.val (.int p1), .val (.int p2), .val (.int (if p2 < p1 then p2 else p1)), .val (.int (if p1 < p2 then p2 else p1)), .val (.int (if (if p2 < p1 then p2 else p1) < (1000 : Int32) then (0 : Int32) else (1 : Int32))), .val (.int (if (if p1 < p2 then p2 else p1) < (1000 : Int32) then (0 : Int32) else (1 : Int32))), .val (.int (1 : Int32)), .val (.int (1 : Int32)), .unset] []))
    refine own_st (fun _ k => XS.sipush X12.here hx rfl (hb hby at_57) k) ?_
    show own_Gl _ _ _ _ _ _ _ (T12.setTop (mkF m 60 #[.val (.int p1), .val (.int p2), .val (.int (if p2 < p1 then p2 else p1)), .val (.int (if p1 < p2 then p2 else p1)), .val (.int (if (if p2 < p1 then p2 else p1) < (1000 : Int32) then (0 : Int32) else (1 : Int32))), .val (.int (if (if p1 < p2 then p2 else p1) < (1000 : Int32) then (0 : Int32) else (1 : Int32))), .val (.int (1 : Int32)), .val (.int (1 : Int32)), .unset] [(.int (1000 : Int32))]))
    obtain ⟨_, _, ⟨T14, L14, k14, n14⟩, -, X14, ⟨Lc14, hQ14, l14, y14, z14⟩, st14⟩ := Jvm.LawKit.callS X12 hx (y := (⟨"com/example/brolga/brolga/check/CdaSchema", "repaysRewriting", "(I)Z"⟩ : MethodName)) hown (mvT hZ (hw _ (List.mem_of_getElem? (i := 7) rfl))) (mvT hZ (hw _ (List.mem_of_getElem? (i := 8) rfl))) (mvT hZ (hw _ (List.mem_of_getElem? (i := 9) rfl))) (mvT hZ (hw _ (List.mem_of_getElem? (i := 10) rfl))) (by decide) (backOf (W := 0) (own_rep l Z a0 hw [] (1000 : Int32) h0 n0 Z0 ) hZ (hw _ (List.mem_of_getElem? (i := 10) rfl)) (hw _ (List.mem_of_getElem? (i := 9) rfl)) (by decide) (by decide)) (g := (mkF m 60 #[.val (.int p1), .val (.int p2), .val (.int (if p2 < p1 then p2 else p1)), .val (.int (if p1 < p2 then p2 else p1)), .val (.int (if (if p2 < p1 then p2 else p1) < (1000 : Int32) then (0 : Int32) else (1 : Int32))), .val (.int (if (if p1 < p2 then p2 else p1) < (1000 : Int32) then (0 : Int32) else (1 : Int32))), .val (.int (1 : Int32)), .val (.int (1 : Int32)), .unset] [(.int (1000 : Int32))])) rfl (by rw [hml]; rfl) (argsL := [(.int (1000 : Int32))]) (rest := []) (lenOf own_pd91181854 rfl) rfl (by show 2 * 0 + _ ≤ _; exact Nat.le_of_eq rfl) (hb hby at_60) (fun _ _ => ⟨rfl, e12, (by decide : 0 + 0 ≤ room_1.cells), (by decide : 0 + 0 ≤ room_1.slots)⟩)
    dsimp only [Pt.U, Pt.locs, Pt.cells, Pt.slots] at X14 l14 y14 z14 st14 hQ14
    subst l14 y14 z14
    obtain ⟨hh14, eh014⟩ : ∃ z, T14.heap = z := ⟨_, rfl⟩
    rw [eh014] at hQ14
    obtain ⟨rfl, Nq14, eh14⟩ := hQ14
    have N14 := Fr.app N12 Nq14
    refine own_st st14 ?_
    have e14 : T14.heap = h0 := eh014.trans eh14
    show own_Gl _ _ _ _ _ _ _ (T14.setTop (mkF m 63 #[.val (.int p1), .val (.int p2), .val (.int (if p2 < p1 then p2 else p1)), .val (.int (if p1 < p2 then p2 else p1)), .val (.int (if (if p2 < p1 then p2 else p1) < (1000 : Int32) then (0 : Int32) else (1 : Int32))), .val (.int (if (if p1 < p2 then p2 else p1) < (1000 : Int32) then (0 : Int32) else (1 : Int32))), .val (.int (1 : Int32)), .val (.int (1 : Int32)), .unset] [(.int (if (1000 : Int32) < (1000 : Int32) then (0 : Int32) else (1 : Int32)))]))
    refine own_st (fun _ k => XS.istore X14.here hx rfl (hb hby at_63) rfl (l' := #[.val (.int p1), .val (.int p2), .val (.int (if p2 < p1 then p2 else p1)), .val (.int (if p1 < p2 then p2 else p1)), .val (.int (if (if p2 < p1 then p2 else p1) < (1000 : Int32) then (0 : Int32) else (1 : Int32))), .val (.int (if (if p1 < p2 then p2 else p1) < (1000 : Int32) then (0 : Int32) else (1 : Int32))), .val (.int (1 : Int32)), .val (.int (1 : Int32)), .val (.int (if (1000 : Int32) < (1000 : Int32) then (0 : Int32) else (1 : Int32)))]) rfl k) ?_
    show own_Gl _ _ _ _ _ _ _ (T14.setTop (mkF m 65 #[.val (.int p1), .val (.int p2), .val (.int (if p2 < p1 then p2 else p1)), .val (.int (if p1 < p2 then p2 else p1)), .val (.int (if (if p2 < p1 then p2 else p1) < (1000 : Int32) then (0 : Int32) else (1 : Int32))), .val (.int (if (if p1 < p2 then p2 else p1) < (1000 : Int32) then (0 : Int32) else (1 : Int32))), .val (.int (1 : Int32)), .val (.int (1 : Int32)), .val (.int (if (1000 : Int32) < (1000 : Int32) then (0 : Int32) else (1 : Int32)))] []))
    refine own_st (fun _ k => XS.iload X14.here hx rfl (hb hby at_65) rfl k) ?_
    show own_Gl _ _ _ _ _ _ _ (T14.setTop (mkF m 67 #[.val (.int p1), .val (.int p2), .val (.int (if p2 < p1 then p2 else p1)), .val (.int (if p1 < p2 then p2 else p1)), .val (.int (if (if p2 < p1 then p2 else p1) < (1000 : Int32) then (0 : Int32) else (1 : Int32))), .val (.int (if (if p1 < p2 then p2 else p1) < (1000 : Int32) then (0 : Int32) else (1 : Int32))), .val (.int (1 : Int32)), .val (.int (1 : Int32)), .val (.int (if (1000 : Int32) < (1000 : Int32) then (0 : Int32) else (1 : Int32)))] [(.int (1 : Int32))]))
    have hd15 : ¬ ((1 : Int32) = (0 : Int32)) := (by decide)
    refine own_st (fun _ k => XS.ifNo X14.here hx rfl (hb hby at_67) rfl ((if0 _ _).trans (feq hd15).1) k) ?_
    show own_Gl _ _ _ _ _ _ _ (T14.setTop (mkF m 70 #[.val (.int p1), .val (.int p2), .val (.int (if p2 < p1 then p2 else p1)), .val (.int (if p1 < p2 then p2 else p1)), .val (.int (if (if p2 < p1 then p2 else p1) < (1000 : Int32) then (0 : Int32) else (1 : Int32))), .val (.int (if (if p1 < p2 then p2 else p1) < (1000 : Int32) then (0 : Int32) else (1 : Int32))), .val (.int (1 : Int32)), .val (.int (1 : Int32)), .val (.int (if (1000 : Int32) < (1000 : Int32) then (0 : Int32) else (1 : Int32)))] []))
    refine own_st (fun _ k => XS.iload X14.here hx rfl (hb hby at_70) rfl k) ?_
    show own_Gl _ _ _ _ _ _ _ (T14.setTop (mkF m 72 #[.val (.int p1), .val (.int p2), .val (.int (if p2 < p1 then p2 else p1)), .val (.int (if p1 < p2 then p2 else p1)), .val (.int (if (if p2 < p1 then p2 else p1) < (1000 : Int32) then (0 : Int32) else (1 : Int32))), .val (.int (if (if p1 < p2 then p2 else p1) < (1000 : Int32) then (0 : Int32) else (1 : Int32))), .val (.int (1 : Int32)), .val (.int (1 : Int32)), .val (.int (if (1000 : Int32) < (1000 : Int32) then (0 : Int32) else (1 : Int32)))] [(.int (1 : Int32))]))
    have hd16 : ¬ ((1 : Int32) = (0 : Int32)) := (by decide)
    refine own_st (fun _ k => XS.ifNo X14.here hx rfl (hb hby at_72) rfl ((if0 _ _).trans (feq hd16).1) k) ?_
    show own_Gl _ _ _ _ _ _ _ (T14.setTop (mkF m 75 #[.val (.int p1), .val (.int p2), .val (.int (if p2 < p1 then p2 else p1)), .val (.int (if p1 < p2 then p2 else p1)), .val (.int (if (if p2 < p1 then p2 else p1) < (1000 : Int32) then (0 : Int32) else (1 : Int32))), .val (.int (if (if p1 < p2 then p2 else p1) < (1000 : Int32) then (0 : Int32) else (1 : Int32))), .val (.int (1 : Int32)), .val (.int (1 : Int32)), .val (.int (if (1000 : Int32) < (1000 : Int32) then (0 : Int32) else (1 : Int32)))] []))
    refine own_st (fun _ k => XS.iload X14.here hx rfl (hb hby at_75) rfl k) ?_
    show own_Gl _ _ _ _ _ _ _ (T14.setTop (mkF m 77 #[.val (.int p1), .val (.int p2), .val (.int (if p2 < p1 then p2 else p1)), .val (.int (if p1 < p2 then p2 else p1)), .val (.int (if (if p2 < p1 then p2 else p1) < (1000 : Int32) then (0 : Int32) else (1 : Int32))), .val (.int (if (if p1 < p2 then p2 else p1) < (1000 : Int32) then (0 : Int32) else (1 : Int32))), .val (.int (1 : Int32)), .val (.int (1 : Int32)), .val (.int (if (1000 : Int32) < (1000 : Int32) then (0 : Int32) else (1 : Int32)))] [(.int (if (1000 : Int32) < (1000 : Int32) then (0 : Int32) else (1 : Int32)))]))
    have hd17 : ¬ ((if (1000 : Int32) < (1000 : Int32) then (0 : Int32) else (1 : Int32)) = (0 : Int32)) := (by decide)
    refine own_st (fun _ k => XS.ifNo X14.here hx rfl (hb hby at_77) rfl ((if0 _ _).trans (feq hd17).1) k) ?_
    show own_Gl _ _ _ _ _ _ _ (T14.setTop (mkF m 80 #[.val (.int p1), .val (.int p2), .val (.int (if p2 < p1 then p2 else p1)), .val (.int (if p1 < p2 then p2 else p1)), .val (.int (if (if p2 < p1 then p2 else p1) < (1000 : Int32) then (0 : Int32) else (1 : Int32))), .val (.int (if (if p1 < p2 then p2 else p1) < (1000 : Int32) then (0 : Int32) else (1 : Int32))), .val (.int (1 : Int32)), .val (.int (1 : Int32)), .val (.int (if (1000 : Int32) < (1000 : Int32) then (0 : Int32) else (1 : Int32)))] []))
    refine own_st (fun _ k => XS.iconst X14.here hx rfl (hb hby at_80) k) ?_
    show own_Gl _ _ _ _ _ _ _ (T14.setTop (mkF m 81 #[.val (.int p1), .val (.int p2), .val (.int (if p2 < p1 then p2 else p1)), .val (.int (if p1 < p2 then p2 else p1)), .val (.int (if (if p2 < p1 then p2 else p1) < (1000 : Int32) then (0 : Int32) else (1 : Int32))), .val (.int (if (if p1 < p2 then p2 else p1) < (1000 : Int32) then (0 : Int32) else (1 : Int32))), .val (.int (1 : Int32)), .val (.int (1 : Int32)), .val (.int (if (1000 : Int32) < (1000 : Int32) then (0 : Int32) else (1 : Int32)))] [(.int (1 : Int32))]))
    refine own_st (fun _ k => XS.goto X14.here hx rfl (pc0 := 81) (pc' := 85) rfl (hb hby at_81) (by decide) (by decide) k) ?_
    show own_Gl _ _ _ _ _ _ _ (T14.setTop (mkF m 85 #[.val (.int p1), .val (.int p2), .val (.int (if p2 < p1 then p2 else p1)), .val (.int (if p1 < p2 then p2 else p1)), .val (.int (if (if p2 < p1 then p2 else p1) < (1000 : Int32) then (0 : Int32) else (1 : Int32))), .val (.int (if (if p1 < p2 then p2 else p1) < (1000 : Int32) then (0 : Int32) else (1 : Int32))), .val (.int (1 : Int32)), .val (.int (1 : Int32)), .val (.int (if (1000 : Int32) < (1000 : Int32) then (0 : Int32) else (1 : Int32)))] [(.int (1 : Int32))]))
    exact own_retN X14 hx hlk (t := .boolean) hret (by simp) (hb hby at_85) e14 ⟨rfl, N14⟩ (by decide) (by decide)
set_option maxRecDepth 65536 in
set_option maxHeartbeats 40000000 in
theorem comes_1 {Post : Tables → Env → Array Value → State → Outcome → State → Prop} (hpost : ∀ tb e args s v u, (limb_1_1.after args s (.returned v) u = true ∧ limb_1_2.after args s (.returned v) u = true ∧ True) → FrameEnd s (.returned v) u (Jvm.fieldLocs frame_1_writes args s ++ Jvm.arrayLocs frame_1_arrays args s ++ Jvm.staticLocs frame_1_statics s) 0 0 → Post tb e args s (.returned v) u) :
    ArmFor flags0 classFile x code maxLocals ret World_1 tables_1 room_1 Calls_1 rest_1 Pre_1 Post := by
  intro l hfl _ _ p e ha hc hk s m args below hf hA hF happ hP
  obtain ⟨hcalls, hrest, hpre⟩ := hP
  obtain ⟨-, -, -, hnamed, -, -, -, hat⟩ := (Spec.applies_iff hf).mp happ
  obtain ⟨hg, hn⟩ := and_e (Cond.before_iff.mp (show (Jvm.Cond.and given_1 narrow_1).before args s = true from hpre))
  obtain ⟨gg1, gg2⟩ := and_e hg
  obtain ⟨gg3, gg4⟩ := and_e gg2
  obtain ⟨w0, w1, rfl⟩ : ∃ w0 w1 : Value, args = #[w0, w1] := by
    have hs : args.size = 2 := by simpa [Cond.value, given_1] using gg1
    obtain ⟨L⟩ := args
    match L, hs with
    | [w0, w1], _ => exact ⟨w0, w1, rfl⟩
  have hw := fun d (hd : d ∈ tables_1) => atoms_spec (ws := Jvm.Cond.code x code maxLocals ret :: tables_1) hat d (List.mem_cons_of_mem _ hd)
  have hfit : Fit s := fun {y c} hc i hi => by
    obtain ⟨ha, rfl⟩ := Array.getElem?_eq_some_iff.mp hc
    have q := List.all_eq_true.mp ((Array.all_eq_true_iff_forall_mem.mp hF) _ (Array.getElem_mem ha)) i (List.mem_range.mpr hi)
    simpa [Array.getElem?_eq_getElem hi] using q
  obtain ⟨i0, ei0⟩ := is_v gg3
  obtain rfl : w0 = (.int i0) := Option.some.inj ei0
  obtain ⟨i1, ei1⟩ := is_v gg4
  obtain rfl : w1 = (.int i1) := Option.some.inj ei1
  obtain ⟨n, o, h1, h2, h3, _, L, rfl, ⟨rfl, N⟩, hq⟩ := own_law l s _ hw tables_1 i0 i1  s.heap s.heap.size (Nat.le_refl _)  p e ha hc hk s m _ below hf ((Spec.applies_iff_loose hf).mp happ).1 ⟨rfl, State.Warmed39.refl s, rfl⟩ trivial
  refine ⟨n, _, h1, h2, h3, hpost _ _ _ _ _ _ ⟨Cond.after_iff.mpr rfl, Cond.after_iff.mpr (eq_i res_at (Term.int_eval (1)) rfl), trivial⟩ ⟨hq.1, hq.2.1, (hq.2.2.sift fun y hy => Or.inr (N y hy)).mono (by decide) (by decide)⟩⟩
theorem main_1_1 : Claimed_1_1 := comes_1 fun _ _ _ _ _ _ h hF => ⟨h.1, hF⟩
theorem main_1_2 : Claimed_1_2 := comes_1 fun _ _ _ _ _ _ h hF => ⟨h.2.1, hF⟩

end Jvm.Pilot.@@N@@
namespace Jvm.Pilot.@@N@@
open Jvm Jvm.ClassFile Sem Op Lib Jvm.Free Jvm.Stand Jvm.Pilot.@@N@@.Jvm.D
/-! MADE BY PROGRAM (witnessworld.py) out of the Statement's table words and the real class files: 10 classes; the members and pool entries that the words name. The judged class is class 1, her method 1. -/
namespace start1
open Jvm.ClassFile
def u (s : String) : CpInfo := .utf8 (stringToUtf16 s)
/-- a pool by its gaps: so many unusable entries, then the entry; so many at the end -/
def gap : Nat → List CpInfo → List CpInfo
  | 0, r => r
  | n + 1, r => .unusable :: gap n r
def poolList (es : List (Nat × CpInfo)) (last : Nat) : List CpInfo := es.foldr (fun e r => gap e.1 (e.2 :: r)) (gap last [])
def pool (es : List (Nat × CpInfo)) (last : Nat) : Array CpInfo := ⟨poolList es last⟩
def fileOf (pool : Array CpInfo) (this : Nat) (attrs : Array Attribute := #[]) (ms : Array MethodInfo := #[]) (fl : Nat := 33) (sup : Nat := 0) (ifs : Array Nat := #[]) (fds : Array FieldInfo := #[]) : ClassFile where
  minorVersion := 0
  majorVersion := 65
  constantPool := pool
  accessFlags := fl
  thisClass := this
  superClass := sup
  interfaces := ifs
  fields := fds
  methods := ms
  attributes := attrs
def plain (name : String) (sup : Option ClassId) : Class where
  name := name
  kind := .ordinary
  loader := none
  accessFlags := 33
  super := sup
  interfaces := #[]
  cf := none
  fields := #[]
  methods := #[]
  instanceTypes := #[]
  staticTypes := #[]
  resolved := #[]
  callSites := []
  init := .initialized
  statics := none
  mirror := none

def pool0 : Array CpInfo := pool [(5, u "<init>"), (0, u "()V"), (1, .class_ 10), (1, u "java/lang/Object")] 113

def k0m0 : Method := { name := "<init>", desc := "()V", sig := { parameters := [], returnType := none }, accessFlags := 1, code := none }
/-- java/lang/Object -/
def k0 : Class := { plain "java/lang/Object" none with
  accessFlags := 33
  interfaces := #[]
  cf := some (fileOf pool0 8 #[] #[{ accessFlags := 1, nameIndex := 5, descriptorIndex := 6, attributes := #[] }] 33 0 #[] #[])
  fields := #[]
  methods := #[k0m0]
  instanceTypes := #[]
  staticTypes := #[]
  resolved := Array.replicate 124 none
  statics := none }

def pool1 : Array CpInfo := pool [(2, .class_ 4), (1, u "java/lang/Object"), (0, u "<init>"), (0, u "()V"), (0, .methodref 8 9), (0, .class_ 10), (0, .nameAndType 11 12), (0, u "java/lang/Math"), (0, u "min"), (0, u "(II)I"), (0, .methodref 8 14), (0, .nameAndType 15 12), (0, u "max"), (0, .methodref 17 18), (0, .class_ 19), (0, .nameAndType 20 21), (0, u "com/example/brolga/brolga/check/CdaSchema"), (0, u "repaysRewriting"), (0, u "(I)Z"), (0, .class_ 23), (0, u "com/example/brolga/brolga/check/CdaSchemaRepaysRewritingPinLaw"), (2, u "law"), (0, u "(II)Z")] 3

def k1m0 : Method := { name := "<init>", desc := "()V", sig := { parameters := [], returnType := none }, accessFlags := 2, code := none }
def k1c1 : Code := { maxStack := 2, maxLocals := 9, code := code, exceptionTable := #[], attributes := #[] }
def k1m1 : Method := { name := "law", desc := "(II)Z", sig := { parameters := [.int, .int], returnType := some .boolean }, accessFlags := 9, code := some k1c1 }
/-- com/example/brolga/brolga/check/CdaSchemaRepaysRewritingPinLaw -/
def k1 : Class := { plain "com/example/brolga/brolga/check/CdaSchemaRepaysRewritingPinLaw" (some 0) with
  accessFlags := 49
  interfaces := #[]
  cf := some (fileOf pool1 22 #[] #[{ accessFlags := 2, nameIndex := 5, descriptorIndex := 6, attributes := #[] }, { accessFlags := 9, nameIndex := 26, descriptorIndex := 27, attributes := #[] }] 49 2 #[] #[])
  fields := #[]
  methods := #[k1m0, k1m1]
  instanceTypes := #[]
  staticTypes := #[]
  resolved := Array.replicate 31 none
  statics := none }

def pool2 : Array CpInfo := pool [(1, .class_ 2), (0, u "java/lang/Math"), (1, .class_ 6), (1, u "java/lang/Object"), (0, u "<init>"), (0, u "()V"), (89, .class_ 100), (1, u "java/lang/Math$RandomNumberGeneratorHolder"), (71, u "negativeZeroFloatBits"), (0, u "J"), (2, u "negativeZeroDoubleBits"), (21, u "max"), (2, u "min"), (43, u "$assertionsDisabled"), (0, u "Z"), (88, u "(II)I"), (2, u "twoToTheDoubleScaleDown"), (0, u "D"), (4, u "twoToTheDoubleScaleUp"), (9, u "E"), (3, u "PI"), (2, u "TAU"), (2, u "DEGREES_TO_RADIANS"), (0, u "RADIANS_TO_DEGREES")] 94

def k2m0 : Method := { name := "<init>", desc := "()V", sig := { parameters := [], returnType := none }, accessFlags := 2, code := none }
def k2c1 : Code := { maxStack := 2, maxLocals := 2, code := jdk_29_method_65_code, exceptionTable := #[], attributes := #[] }
def k2m1 : Method := { name := "max", desc := "(II)I", sig := { parameters := [.int, .int], returnType := some .int }, accessFlags := 9, code := some k2c1 }
def k2c2 : Code := { maxStack := 2, maxLocals := 2, code := jdk_29_method_69_code, exceptionTable := #[], attributes := #[] }
def k2m2 : Method := { name := "min", desc := "(II)I", sig := { parameters := [.int, .int], returnType := some .int }, accessFlags := 9, code := some k2c2 }
/-- java/lang/Math -/
def k2 : Class := { plain "java/lang/Math" (some 0) with
  accessFlags := 49
  interfaces := #[]
  cf := some (fileOf pool2 1 #[.nestMembers #[98]] #[{ accessFlags := 2, nameIndex := 7, descriptorIndex := 8, attributes := #[] }, { accessFlags := 9, nameIndex := 198, descriptorIndex := 335, attributes := #[] }, { accessFlags := 9, nameIndex := 201, descriptorIndex := 335, attributes := #[] }] 49 4 #[] #[{ accessFlags := 25, nameIndex := 354, descriptorIndex := 339, attributes := #[] }, { accessFlags := 25, nameIndex := 358, descriptorIndex := 339, attributes := #[] }, { accessFlags := 25, nameIndex := 361, descriptorIndex := 339, attributes := #[] }, { accessFlags := 26, nameIndex := 364, descriptorIndex := 339, attributes := #[] }, { accessFlags := 26, nameIndex := 365, descriptorIndex := 339, attributes := #[] }, { accessFlags := 26, nameIndex := 172, descriptorIndex := 173, attributes := #[] }, { accessFlags := 26, nameIndex := 176, descriptorIndex := 173, attributes := #[] }, { accessFlags := 8, nameIndex := 344, descriptorIndex := 339, attributes := #[] }, { accessFlags := 8, nameIndex := 338, descriptorIndex := 339, attributes := #[] }, { accessFlags := 4120, nameIndex := 245, descriptorIndex := 246, attributes := #[] }])
  fields := #[{ name := "E", type := .double, accessFlags := 25, slot := 0, constantValue := 0 }, { name := "PI", type := .double, accessFlags := 25, slot := 1, constantValue := 0 }, { name := "TAU", type := .double, accessFlags := 25, slot := 2, constantValue := 0 }, { name := "DEGREES_TO_RADIANS", type := .double, accessFlags := 26, slot := 3, constantValue := 0 }, { name := "RADIANS_TO_DEGREES", type := .double, accessFlags := 26, slot := 4, constantValue := 0 }, { name := "negativeZeroFloatBits", type := .long, accessFlags := 26, slot := 5, constantValue := 0 }, { name := "negativeZeroDoubleBits", type := .long, accessFlags := 26, slot := 6, constantValue := 0 }, { name := "twoToTheDoubleScaleUp", type := .double, accessFlags := 8, slot := 7, constantValue := 0 }, { name := "twoToTheDoubleScaleDown", type := .double, accessFlags := 8, slot := 8, constantValue := 0 }, { name := "$assertionsDisabled", type := .boolean, accessFlags := 4120, slot := 9, constantValue := 0 }]
  methods := #[k2m0, k2m1, k2m2]
  instanceTypes := #[]
  staticTypes := #[.double, .double, .double, .double, .double, .long, .long, .double, .double, .boolean]
  resolved := Array.replicate 460 none
  statics := none }

def pool3 : Array CpInfo := pool [(2, .class_ 4), (1, u "java/lang/Object"), (6, .class_ 13), (1, u "com/example/brolga/brolga/check/CdaSchema"), (0, u "validatorsMade"), (0, u "Ljava/util/concurrent/atomic/AtomicInteger;"), (2, u "documents"), (0, u "Lcom/example/brolga/brolga/xml/SchemaDocuments;"), (2, u "schema"), (0, u "Ljavax/xml/validation/Schema;"), (2, u "copies"), (0, u "I"), (6, u "repaysRewriting"), (0, u "(I)Z"), (39, .class_ 76), (0, u "com/example/brolga/brolga/check/CdaSchema$FindingCollector"), (9, u "RULE"), (0, u "Ljava/lang/String;"), (3, u "DOCUMENTS_TO_REPAY"), (14, .class_ 107), (0, u "com/example/brolga/brolga/check/CdaSchema$Element")] 3

def k3c0 : Code := { maxStack := 2, maxLocals := 1, code := prog_36_method_4_code, exceptionTable := #[], attributes := #[] }
def k3m0 : Method := { name := "repaysRewriting", desc := "(I)Z", sig := { parameters := [.int], returnType := some .boolean }, accessFlags := 8, code := some k3c0 }
/-- com/example/brolga/brolga/check/CdaSchema -/
def k3 : Class := { plain "com/example/brolga/brolga/check/CdaSchema" (some 0) with
  accessFlags := 49
  interfaces := #[]
  cf := some (fileOf pool3 11 #[.nestMembers #[75, 106]] #[{ accessFlags := 8, nameIndex := 34, descriptorIndex := 35, attributes := #[] }] 49 2 #[] #[{ accessFlags := 25, nameIndex := 86, descriptorIndex := 87, attributes := #[] }, { accessFlags := 26, nameIndex := 91, descriptorIndex := 27, attributes := #[] }, { accessFlags := 18, nameIndex := 18, descriptorIndex := 19, attributes := #[] }, { accessFlags := 18, nameIndex := 22, descriptorIndex := 23, attributes := #[] }, { accessFlags := 18, nameIndex := 26, descriptorIndex := 27, attributes := #[] }, { accessFlags := 18, nameIndex := 14, descriptorIndex := 15, attributes := #[] }])
  fields := #[{ name := "RULE", type := (.object "java/lang/String"), accessFlags := 25, slot := 0, constantValue := 0 }, { name := "DOCUMENTS_TO_REPAY", type := .int, accessFlags := 26, slot := 1, constantValue := 0 }, { name := "documents", type := (.object "com/example/brolga/brolga/xml/SchemaDocuments"), accessFlags := 18, slot := 0, constantValue := 0 }, { name := "schema", type := (.object "javax/xml/validation/Schema"), accessFlags := 18, slot := 1, constantValue := 0 }, { name := "copies", type := .int, accessFlags := 18, slot := 2, constantValue := 0 }, { name := "validatorsMade", type := (.object "java/util/concurrent/atomic/AtomicInteger"), accessFlags := 18, slot := 3, constantValue := 0 }]
  methods := #[k3m0]
  instanceTypes := #[(.object "com/example/brolga/brolga/xml/SchemaDocuments"), (.object "javax/xml/validation/Schema"), .int, (.object "java/util/concurrent/atomic/AtomicInteger")]
  staticTypes := #[(.object "java/lang/String"), .int]
  resolved := Array.replicate 111 none
  statics := none }

def pool4 : Array CpInfo := pool [(1, u "java/lang/Cloneable"), (0, .class_ 1), (0, u "java/lang/Object"), (0, .class_ 3)] 3

/-- java/lang/Cloneable -/
def k4 : Class := { plain "java/lang/Cloneable" (some 0) with
  accessFlags := 1537
  interfaces := #[]
  cf := some (fileOf pool4 2 #[] #[] 1537 4 #[] #[])
  fields := #[]
  methods := #[]
  instanceTypes := #[]
  staticTypes := #[]
  resolved := Array.replicate 8 none
  statics := none }

def pool5 : Array CpInfo := pool [(1, u "java/io/Serializable"), (0, .class_ 1), (0, u "java/lang/Object"), (0, .class_ 3)] 3

/-- java/io/Serializable -/
def k5 : Class := { plain "java/io/Serializable" (some 0) with
  accessFlags := 1537
  interfaces := #[]
  cf := some (fileOf pool5 2 #[] #[] 1537 4 #[] #[])
  fields := #[]
  methods := #[]
  instanceTypes := #[]
  staticTypes := #[]
  resolved := Array.replicate 8 none
  statics := none }

/-- the primitive byte -/
def k6 : Class := { plain "byte" none with kind := .primitive 'B', accessFlags := 0x411 }
/-- [B -/
def k7 : Class := { plain "[B" (some 0) with kind := .array 6 .byte, interfaces := #[4, 5], accessFlags := 1041 }

/-- the primitive int -/
def k8 : Class := { plain "int" none with kind := .primitive 'I', accessFlags := 0x411 }
/-- [I -/
def k9 : Class := { plain "[I" (some 0) with kind := .array 8 .int, interfaces := #[4, 5], accessFlags := 1041 }

def heap : Heap := #[]
def classes : Array Class := #[k0, k1, k2, k3, k4, k5, k6, k7, k8, k9]
def interned : List (Array UInt16 × Addr) := []
def slotsUsed : Nat := 0
def theMethod : MethodId := ⟨1, 1⟩
def args0 : Array Value := #[.int 5, .int 7]
def aboutOver (below : List Frame) : State where
  vm := { classes := classes, interned := interned.toArray }
  heap := heap
  slotsUsed := slotsUsed
  threads := #[{ frames := .invoking theMethod args0 :: below }]
def below0 : List Frame := [.native { method := ⟨0, 0⟩, args := #[] }]
def about1 : State := aboutOver below0
def p0 : Program := .bare "" "" ""
def e0 : Env := launch0.env 0 0 0
theorem w_frames : about1.frames = Frame.invoking theMethod args0 :: below0 := rfl
set_option maxRecDepth 65536 in
theorem w_args : argsFit about1.vm theMethod args0 = true := by decide +kernel
set_option maxRecDepth 65536 in
theorem w_heap : heapFits about1 = true := by decide +kernel
set_option maxRecDepth 65536 in
theorem w_runnable : about1.curStatus? = some .runnable := by decide +kernel
set_option maxRecDepth 65536 in
theorem w_alone : about1.alone = true := by decide +kernel
set_option maxRecDepth 65536 in
theorem w_named : about1.methodNamed? x = some theMethod := by decide +kernel
set_option maxRecDepth 65536 in
theorem w_hears : about1.hears theMethod below0 = true := by decide +kernel
set_option maxRecDepth 65536 in
theorem w_ripe : about1.ripe theMethod args0 below0 = true := by decide +kernel
theorem w_running : about1.status = .running := rfl
set_option maxRecDepth 65536 in
theorem w_room : about1.hasRoom e0.platform room_1 = true :=
  launch0.hasRoom_least _ room_1 (by decide +kernel) (by decide +kernel) (by decide +kernel) (by decide +kernel) (by decide +kernel) (by decide +kernel)
theorem allAtoms_all (ts : List Jvm.Cond) (a : Array Jvm.Value) (st : Jvm.State) : (allAtoms ts).before a st = ts.all (fun c => c.before a st) := by
  induction ts with
  | nil => rfl
  | cons c t ih =>
    show (Jvm.Cond.and c (allAtoms t)).before a st = _
    rw [Jvm.Cond.before_and, ih, List.all_cons]
def words1 : List Jvm.Cond := Jvm.Cond.code x code maxLocals ret :: tables_1
/-- a 'code' word, met by the world's own term for the bytes: nothing is compared byte by byte -/
theorem code_word {y : MethodName} {bytes : ByteArray} {mx : Nat} {rt : Option FieldType} {a : Array Value} {s : State} {m : MethodId} {meth : Method} {c : Code} (h1 : s.methodNamed? y = some m) (h2 : s.vm.method? m = some meth) (h3 : meth.code = some c) (h4 : c.code = bytes)
    (h5 : (c.maxLocals == mx && c.exceptionTable.isEmpty && decide (c.maxStack ≤ mostOperands) && decide (meth.sig.returnType = rt) && !meth.locks && decide (parseMethodDescriptor y.desc = some meth.sig)) = true) : (Jvm.Cond.code y bytes mx rt).before a s = true := by
  simp only [Bool.and_eq_true, beq_iff_eq, Bool.not_eq_true', decide_eq_true_eq] at h5
  obtain ⟨⟨⟨⟨⟨g1, g2⟩, g3⟩, g4⟩, g5⟩, g6⟩ := h5
  simp [Cond.before, Cond.holds, Cond.value, h1, h2, h3, h4, g1, g2, g3, g4, g5, g6]
def isCode : Jvm.Cond → Bool
  | .code _ _ _ _ => true
  | _ => false
theorem all_split {L : List Jvm.Cond} {P : Jvm.Cond → Bool} (h1 : L.all (fun c => isCode c || P c) = true) (h2 : ∀ c ∈ L.filter isCode, P c = true) : L.all P = true := by
  refine List.all_eq_true.mpr fun c hc => ?_
  have h := List.all_eq_true.mp h1 c hc
  rcases Bool.eq_false_or_eq_true (isCode c) with hi | hi
  · exact h2 c (List.mem_filter.mpr ⟨hc, hi⟩)
  · simpa [hi] using h
set_option maxRecDepth 65536 in
theorem w_c0 : (Jvm.Cond.code x code maxLocals ret).before args0 about1 = true := code_word (m := ⟨1, 1⟩) (meth := k1m1) (c := k1c1) (by decide +kernel) rfl rfl rfl (by decide +kernel)
set_option maxRecDepth 65536 in
theorem w_c1 : (Jvm.Cond.code ({ cls := "java/lang/Math", name := "min", desc := "(II)I" } : Jvm.MethodName) jdk_29_method_69_code (2 : Nat) (Option.some Jvm.ClassFile.FieldType.int)).before args0 about1 = true := code_word (m := ⟨2, 2⟩) (meth := k2m2) (c := k2c2) (by decide +kernel) rfl rfl rfl (by decide +kernel)
set_option maxRecDepth 65536 in
theorem w_c2 : (Jvm.Cond.code ({ cls := "java/lang/Math", name := "max", desc := "(II)I" } : Jvm.MethodName) jdk_29_method_65_code (2 : Nat) (Option.some Jvm.ClassFile.FieldType.int)).before args0 about1 = true := code_word (m := ⟨2, 1⟩) (meth := k2m1) (c := k2c1) (by decide +kernel) rfl rfl rfl (by decide +kernel)
set_option maxRecDepth 65536 in
theorem w_c3 : (Jvm.Cond.code ({ cls := "com/example/brolga/brolga/check/CdaSchema", name := "repaysRewriting", desc := "(I)Z" } : Jvm.MethodName) prog_36_method_4_code (1 : Nat) (Option.some Jvm.ClassFile.FieldType.boolean)).before args0 about1 = true := code_word (m := ⟨3, 0⟩) (meth := k3m0) (c := k3c0) (by decide +kernel) rfl rfl rfl (by decide +kernel)
def codes1 : List Jvm.Cond := [Jvm.Cond.code x code maxLocals ret, Jvm.Cond.code ({ cls := "java/lang/Math", name := "min", desc := "(II)I" } : Jvm.MethodName) jdk_29_method_69_code (2 : Nat) (Option.some Jvm.ClassFile.FieldType.int), Jvm.Cond.code ({ cls := "java/lang/Math", name := "max", desc := "(II)I" } : Jvm.MethodName) jdk_29_method_65_code (2 : Nat) (Option.some Jvm.ClassFile.FieldType.int), Jvm.Cond.code ({ cls := "com/example/brolga/brolga/check/CdaSchema", name := "repaysRewriting", desc := "(I)Z" } : Jvm.MethodName) prog_36_method_4_code (1 : Nat) (Option.some Jvm.ClassFile.FieldType.boolean)]
set_option maxRecDepth 65536 in
theorem codes_eq : words1.filter isCode = codes1 := rfl
theorem w_codes : ∀ c ∈ words1.filter isCode, c.before args0 about1 = true := by
  rw [codes_eq]
  intro c hc
  simp only [codes1, List.mem_cons, List.not_mem_nil, or_false] at hc
  rcases hc with rfl | rfl | rfl | rfl
  · exact w_c0
  · exact w_c1
  · exact w_c2
  · exact w_c3
set_option maxRecDepth 65536 in
theorem w_t1 : words1.all (fun c => isCode c || c.before args0 about1) = true := by decide +kernel
theorem w_tables : (allAtoms (Jvm.Cond.code x code maxLocals ret :: tables_1)).before args0 about1 = true := by
  rw [allAtoms_all]
  show words1.all (fun c => c.before args0 about1) = true
  refine all_split ?_ w_codes
  rw [w_t1]
set_option maxRecDepth 65536 in
theorem w_case : (Jvm.Cond.and given_1 narrow_1).before args0 about1 = true := by decide +kernel
theorem w_applies : (headSpec (Jvm.Cond.code x code maxLocals ret :: tables_1) room_1).applies x e0.platform about1 = true :=
  (Spec.applies_iff w_frames).mpr ⟨w_running, w_runnable, w_alone, w_named, w_hears, w_ripe, w_room, w_tables⟩
theorem atStart : AtStart classFile x code maxLocals ret World_1 tables_1 room_1 Calls_1 rest_1 Pre_1 launch0 p0 e0 about1 theMethod args0 below0 :=
  ⟨lists_1, trivial, launch0.admits_env _ _ _, launch0.least_env, fairChoices_fair.cas, fairChoices_fair.clock, w_frames, w_args, w_heap, w_applies, trivial, trivial, w_case⟩
end start1
theorem witness_1 : WitnessClaimed_1 := ⟨start1.p0, start1.e0, start1.about1, start1.theMethod, start1.args0, start1.below0, start1.atStart⟩
end Jvm.Pilot.@@N@@
