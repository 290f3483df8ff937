import JvmDerived
import JvmDerived.Pilot.@@N@@Statement
import JvmDerived.Pilot.@@N@@Code
set_option linter.unusedVariables false
set_option linter.unusedSimpArgs false

namespace Jvm.Pilot.@@N@@
open Jvm Jvm.ClassFile Sem Op Lib Jvm.Free Jvm.Stand Jvm.LawKit Jvm.RoadKit Bundle Jvm.Pilot.@@N@@.Jvm.D


section OwnKit
variable {p : Program} {l : Launch} {e : Env} {R : Room} {s : State} {m : MethodId} {args : Array Value} {below : List Frame} {meth : Method} {c : Code} {T : State} {locs : List Loc} {cells slots : Nat} {h : Heap} {Q : Option Value → Heap → List Loc → Prop} {C S : Nat}
/-- from the state t the run comes to its end, and what it leaves answers Q -/
def own_Gl (p : Program) (e : Env) (below : List Frame) (s : State) (Q : Option Value → Heap → List Loc → Prop) (C S : Nat) (t : State) : Prop :=
  ∃ s₂ o, Steps p.tables e below t s₂ ∧ s₂.status = .running ∧ Ended s₂ below o ∧ ∃ v L, o = .returned v ∧ Q v s₂.heap L ∧ FrameEnd s o s₂ L C S
theorem own_st {t t' : State} (k : ∀ target, Steps p.tables e below t' target → Steps p.tables e below t target) (d : own_Gl p e below s Q C S t') : own_Gl p e below s Q C S t := by
  obtain ⟨s₂, o, h1, h2⟩ := d
  exact ⟨s₂, o, k _ h1, h2⟩
theorem own_tr {t t' : State} (k : Steps p.tables e below t t') (d : own_Gl p e below s Q C S t') : own_Gl p e below s Q C S t := own_st (fun _ h => k.trans h) d
theorem own_cast {g g' : JFrame} (q : g = g') (d : own_Gl p e below s Q C S (T.setTop g')) : own_Gl p e below s Q C S (T.setTop g) := q ▸ d
theorem own_ret (X : Stand p l e R s m args below meth c T locs cells slots) (hlk : meth.locks = false) {v : Option Value} {t : State} (hv : meth.sig.returnType = none → v = none) (eT : T.heap = h) (hq : Q v h locs) (hc : cells ≤ C) (hs : slots ≤ S)
    (k : ∀ fs, (∀ (f : JFrame) (acts : List Action), f.method = m → f.locked = none → f.entered = [] → (doReturn e (T.setTop f) acts v).1 = T.setFrames fs) → Steps p.tables e below t (T.setFrames fs)) : own_Gl p e below s Q C S t := by
  obtain ⟨fs, hr, hrun, hended, hW, hsame⟩ := X.leave hv hlk
  exact ⟨_, _, k fs hr, hrun, hended, v, locs, rfl, by show Q v T.heap locs; rw [eT]; exact hq, ⟨_, rfl⟩, hW, hsame.mono hc hs⟩
theorem own_retI (X : Stand p l e R s m args below meth c T locs cells slots) (hx : p.tables.exec = Jvm.exec) (hlk : meth.locks = false) {pc : Nat} {Ls : Array Slot} {z : Int32} {rest : List Value} (hret : meth.sig.returnType = some .int) (hd : decode c.code pc = .ok (.ireturn, 1)) (eT : T.heap = h) (hq : Q (some (.int z)) h locs) (hc : cells ≤ C) (hs : slots ≤ S) :
    own_Gl p e below s Q C S (T.setTop (mkF m pc Ls (.int z :: rest))) :=
  own_ret X hlk (fun q => by rw [hret] at q; cases q) eT hq hc hs (fun _ hr => retOut X hx hret rfl (Or.inl ⟨rfl, Or.inl rfl, _, rfl⟩) hd hr)
theorem own_retN (X : Stand p l e R s m args below meth c T locs cells slots) (hx : p.tables.exec = Jvm.exec) (hlk : meth.locks = false) {pc : Nat} {Ls : Array Slot} {z : Int32} {t : FieldType} {rest : List Value} (hret : meth.sig.returnType = some t) (ht : t = .boolean ∨ t = .byte ∨ t = .char ∨ t = .short) (hd : decode c.code pc = .ok (.ireturn, 1)) (eT : T.heap = h) (hq : Q (some (.int (nar t z))) h locs) (hc : cells ≤ C) (hs : slots ≤ S) :
    own_Gl p e below s Q C S (T.setTop (mkF m pc Ls (.int z :: rest))) :=
  own_ret X hlk (fun q => by rw [hret] at q; cases q) eT hq hc hs (fun _ hr => retN X hx hret ht hd hr)
theorem own_retJ (X : Stand p l e R s m args below meth c T locs cells slots) (hx : p.tables.exec = Jvm.exec) (hlk : meth.locks = false) {pc : Nat} {Ls : Array Slot} {z : Int64} {rest : List Value} (hret : meth.sig.returnType = some .long) (hd : decode c.code pc = .ok (.lreturn, 1)) (eT : T.heap = h) (hq : Q (some (.long z)) h locs) (hc : cells ≤ C) (hs : slots ≤ S) :
    own_Gl p e below s Q C S (T.setTop (mkF m pc Ls (.long z :: rest))) :=
  own_ret X hlk (fun q => by rw [hret] at q; cases q) eT hq hc hs (fun _ hr => retOut X hx hret rfl (Or.inr (Or.inl ⟨rfl, rfl, _, rfl⟩)) hd hr)
theorem own_retA (X : Stand p l e R s m args below meth c T locs cells slots) (hx : p.tables.exec = Jvm.exec) (hlk : meth.locks = false) {pc : Nat} {Ls : Array Slot} {w : Value} {t : FieldType} {rest : List Value} (hret : meth.sig.returnType = some t) (ht : t.isReference = true) (hw : w.isRef = true) (hn : narrow t w = w) (hd : decode c.code pc = .ok (.areturn, 1)) (eT : T.heap = h) (hq : Q (some w) h locs) (hc : cells ≤ C) (hs : slots ≤ S) :
    own_Gl p e below s Q C S (T.setTop (mkF m pc Ls (w :: rest))) :=
  own_ret X hlk (fun q => by rw [hret] at q; cases q) eT hq hc hs (fun _ hr => retOut X hx hret hn (Or.inr (Or.inr (Or.inr (Or.inr ⟨rfl, ht, hw⟩)))) hd hr)
theorem own_retV (X : Stand p l e R s m args below meth c T locs cells slots) (hx : p.tables.exec = Jvm.exec) (hlk : meth.locks = false) {pc : Nat} {Ls : Array Slot} (hret : meth.sig.returnType = none) (hd : decode c.code pc = .ok (.return_, 1)) (eT : T.heap = h) (hq : Q none h locs) (hc : cells ≤ C) (hs : slots ≤ S) :
    own_Gl p e below s Q C S (T.setTop (mkF m pc Ls [])) :=
  own_ret X hlk (fun _ => rfl) eT hq hc hs (fun _ hr => X.returnOut hx hret hd hr)
end OwnKit


def own_at (xs : List Int32) (z i : Int32) : Int32 := if i < (0 : Int32) then (0 : Int32) else if i < z then xs.getD i.toNatClampNeg 0 else (0 : Int32)
def own_skip (v u : Int32) : Int32 := if v = (0 : Int32) then (1 : Int32) else if u = (0 : Int32) then (0 : Int32) else if v = (2 : Int32) then (1 : Int32) else (0 : Int32)
def own_known (v : Int32) : Int32 := if v = (1 : Int32) then (1 : Int32) else if v = (-1 : Int32) then (1 : Int32) else (0 : Int32)
def own_near (xs : List Int32) (z k d u : Int32) : Int32 :=
  if own_skip (own_at xs z (k + d)) u = (0 : Int32) then own_at xs z (k + d)
  else if own_skip (own_at xs z (k + ((2 : Int32) * d))) u = (0 : Int32) then own_at xs z (k + ((2 : Int32) * d))
  else if own_skip (own_at xs z (k + ((3 : Int32) * d))) u = (0 : Int32) then own_at xs z (k + ((3 : Int32) * d))
  else if own_skip (own_at xs z (k + ((4 : Int32) * d))) u = (0 : Int32) then own_at xs z (k + ((4 : Int32) * d))
  else (0 : Int32)
def own_pinned (xs : List Int32) (z k : Int32) : Int32 :=
  if own_at xs z k = (2 : Int32) then
    (if own_known (own_near xs z k (-1 : Int32) (0 : Int32)) = (0 : Int32) then (0 : Int32)
     else if own_known (own_near xs z k (1 : Int32) (0 : Int32)) = (0 : Int32) then (0 : Int32)
     else if own_near xs z k (1 : Int32) (0 : Int32) = (-(own_near xs z k (-1 : Int32) (0 : Int32))) then (1 : Int32) else (0 : Int32))
  else (1 : Int32)
def own_change (xs : List Int32) (z k : Int32) : Int32 :=
  if own_known (own_at xs z k) = (0 : Int32) then (0 : Int32)
  else if own_near xs z k (-1 : Int32) (1 : Int32) = (-(own_at xs z k)) then (1 : Int32) else (0 : Int32)
def own_isU (xs : List Int32) (z k : Int32) : Int32 := if own_at xs z k = (2 : Int32) then (1 : Int32) else (0 : Int32)
def own_isK (xs : List Int32) (z k : Int32) : Int32 := if own_known (own_at xs z k) = (0 : Int32) then (0 : Int32) else (1 : Int32)
def own_sc : List Int32 → Int32 → Int32 → Int32 → Int32
  | [], c, l, u => if (0 : Int32) < u then (if l = (0 : Int32) then (if (1 : Int32) < u then (-1 : Int32) else c) else (-1 : Int32)) else c
  | v :: r, c, l, u => if v = (2 : Int32) then own_sc r c l (u + (1 : Int32)) else if v = (0 : Int32) then own_sc r c l u else
      if (0 : Int32) < u then (if l = (0 : Int32) then (-1 : Int32) else if l = v then (-1 : Int32) else if (1 : Int32) < u then (-1 : Int32) else own_sc r (if l = (0 : Int32) then c else if v = l then c else (c + (1 : Int32))) v (0 : Int32))
      else own_sc r (if l = (0 : Int32) then c else if v = l then c else (c + (1 : Int32))) v (0 : Int32)
theorem own_sc_nil (c l u : Int32) : own_sc [] c l u = if (0 : Int32) < u then (if l = (0 : Int32) then (if (1 : Int32) < u then (-1 : Int32) else c) else (-1 : Int32)) else c := rfl
theorem own_sc_cons (v : Int32) (r : List Int32) (c l u : Int32) : own_sc (v :: r) c l u = if v = (2 : Int32) then own_sc r c l (u + (1 : Int32)) else if v = (0 : Int32) then own_sc r c l u else
      if (0 : Int32) < u then (if l = (0 : Int32) then (-1 : Int32) else if l = v then (-1 : Int32) else if (1 : Int32) < u then (-1 : Int32) else own_sc r (if l = (0 : Int32) then c else if v = l then c else (c + (1 : Int32))) v (0 : Int32))
      else own_sc r (if l = (0 : Int32) then c else if v = l then c else (c + (1 : Int32))) v (0 : Int32) := rfl
def own_expect (xs : List Int32) (z : Int32) : Int32 :=
  if ((((own_isK xs z (0 : Int32) + own_isK xs z (1 : Int32)) + own_isK xs z (2 : Int32)) + own_isK xs z (3 : Int32)) + own_isK xs z (4 : Int32)) = (0 : Int32) then
    (if (1 : Int32) < ((((own_isU xs z (0 : Int32) + own_isU xs z (1 : Int32)) + own_isU xs z (2 : Int32)) + own_isU xs z (3 : Int32)) + own_isU xs z (4 : Int32)) then (-1 : Int32) else (0 : Int32))
  else if own_pinned xs z (0 : Int32) = (0 : Int32) then (-1 : Int32)
  else if own_pinned xs z (1 : Int32) = (0 : Int32) then (-1 : Int32)
  else if own_pinned xs z (2 : Int32) = (0 : Int32) then (-1 : Int32)
  else if own_pinned xs z (3 : Int32) = (0 : Int32) then (-1 : Int32)
  else if own_pinned xs z (4 : Int32) = (0 : Int32) then (-1 : Int32)
  else ((((own_change xs z (0 : Int32) + own_change xs z (1 : Int32)) + own_change xs z (2 : Int32)) + own_change xs z (3 : Int32)) + own_change xs z (4 : Int32))
def own_vals : List Int32 := [(-1 : Int32), (0 : Int32), (1 : Int32), (2 : Int32)]
theorem own_in4 (y : Int32) : ((y &&& (3 : Int32)) - (1 : Int32)) ∈ own_vals := by
  have h := c_mask y (3 : Int32) 2 (by decide) (by decide)
  have e0 : (0 : Int32).toInt = 0 := by decide
  have e1 : (1 : Int32).toInt = 1 := by decide
  have e2 : (2 : Int32).toInt = 2 := by decide
  have e3 : (3 : Int32).toInt = 3 := by decide
  have q : (y &&& (3 : Int32)) = (0 : Int32) ∨ (y &&& (3 : Int32)) = (1 : Int32) ∨ (y &&& (3 : Int32)) = (2 : Int32) ∨ (y &&& (3 : Int32)) = (3 : Int32) := by
    simp only [← Int32.toInt_inj, e0, e1, e2, e3]
    omega
  rcases q with q | q | q | q <;> rw [q] <;> decide
theorem own_all0 : own_sc [] 0 0 0 = own_expect [] (0 : Int32) := by decide +kernel
theorem own_all1 : ∀ a ∈ own_vals, own_sc [a] 0 0 0 = own_expect [a] (1 : Int32) := by decide +kernel
theorem own_all2 : ∀ a ∈ own_vals, ∀ b ∈ own_vals, own_sc [a, b] 0 0 0 = own_expect [a, b] (2 : Int32) := by decide +kernel
theorem own_all3 : ∀ a ∈ own_vals, ∀ b ∈ own_vals, ∀ c ∈ own_vals, own_sc [a, b, c] 0 0 0 = own_expect [a, b, c] (3 : Int32) := by decide +kernel
theorem own_all4 : ∀ a ∈ own_vals, ∀ b ∈ own_vals, ∀ c ∈ own_vals, ∀ d ∈ own_vals, own_sc [a, b, c, d] 0 0 0 = own_expect [a, b, c, d] (4 : Int32) := by decide +kernel
theorem own_all5 : ∀ a ∈ own_vals, ∀ b ∈ own_vals, ∀ c ∈ own_vals, ∀ d ∈ own_vals, ∀ e ∈ own_vals, own_sc [a, b, c, d, e] 0 0 0 = own_expect [a, b, c, d, e] (5 : Int32) := by decide +kernel
theorem own_getD (xs : List Int32) : ∀ n : Nat, (xs.map Value.int).getD n (.int (0 : Int32)) = .int (xs.getD n 0) := by
  induction xs with
  | nil => intro n; rfl
  | cons x r ih => intro n; cases n with
    | zero => rfl
    | succ n => exact ih n
theorem own_drop (xs : List Int32) : ∀ n : Nat, n < xs.length → xs.drop n = xs.getD n 0 :: xs.drop (n + 1) := by
  induction xs with
  | nil => intro n h; cases h
  | cons x r ih => intro n h; cases n with
    | zero => rfl
    | succ n => exact ih n (Nat.lt_of_succ_lt_succ h)
theorem own_nat {i : Int32} (h : ¬ i < 0) : (i.toNatClampNeg : Int) = i.toInt := (nat_of h).symm
theorem own_inc (i z : Int32) (h0 : ¬ i < 0) (h : i < z) : (i + (1 : Int32)).toNatClampNeg = i.toNatClampNeg + 1 ∧ ¬ (i + (1 : Int32)) < 0 := by
  have r := rng32 z; have a := c_iadd i (1 : Int32); have r2 := rng32 (i + (1 : Int32)); have e1 : (1 : Int32).toInt = 1 := by decide
  have e0 : (0 : Int32).toInt = 0 := by decide
  rw [Int32.lt_iff_toInt_lt] at h
  have h0' := h0
  rw [Int32.lt_iff_toInt_lt] at h0'
  have n2 : ¬ (i + (1 : Int32)) < 0 := by rw [Int32.lt_iff_toInt_lt]; omega
  have q1 := own_nat h0; have q2 := own_nat n2
  exact ⟨by omega, n2⟩
theorem own_lt {i z : Int32} (h0 : ¬ i < 0) (h : i < z) : i.toNatClampNeg < z.toNatClampNeg := by
  have e0 : (0 : Int32).toInt = 0 := by decide
  have h1 := h; have h2 := h0
  rw [Int32.lt_iff_toInt_lt] at h1 h2
  have hz : ¬ z < 0 := by rw [Int32.lt_iff_toInt_lt]; omega
  have q1 := own_nat h0; have q2 := own_nat hz
  omega
theorem own_dec (i z : Int32) (h0 : ¬ i < 0) (h : i < z) : z.toNatClampNeg - (i + (1 : Int32)).toNatClampNeg < z.toNatClampNeg - i.toNatClampNeg := by
  have q := own_inc i z h0 h; have q2 := own_lt h0 h
  omega
theorem own_end (xs : List Int32) (z i : Int32) (hz : z.toNatClampNeg = xs.length) (h0 : ¬ i < 0) (h : ¬ i < z) : xs.drop i.toNatClampNeg = [] := by
  apply List.drop_eq_nil_of_le
  rw [← hz]
  by_cases hn : z < 0
  · have e0 : (0 : Int32).toInt = 0 := by decide
    rw [Int32.lt_iff_toInt_lt] at hn
    have : z.toNatClampNeg = 0 := by rw [Int32.toNatClampNeg]; omega
    omega
  · have q1 := own_nat h0; have q2 := own_nat hn
    rw [Int32.lt_iff_toInt_lt] at h
    omega

theorem own_d_method_2_code_0 : decode method_2_code 0 = .ok (.iload_n 1, 1) := by decide +kernel
theorem own_d_method_2_code_1 : decode method_2_code 1 = .ok (.ifCond .lt 15, 3) := by decide +kernel
theorem own_d_method_2_code_16 : decode method_2_code 16 = .ok (.iconst 0, 1) := by decide +kernel
theorem own_d_method_2_code_17 : decode method_2_code 17 = .ok (.ireturn, 1) := by decide +kernel
theorem own_d_method_2_code_4 : decode method_2_code 4 = .ok (.iload_n 1, 1) := by decide +kernel
theorem own_d_method_2_code_5 : decode method_2_code 5 = .ok (.aload_n 0, 1) := by decide +kernel
theorem own_d_method_2_code_6 : decode method_2_code 6 = .ok (.arraylength, 1) := by decide +kernel
theorem own_d_method_2_code_7 : decode method_2_code 7 = .ok (.if_icmp .ge 9, 3) := by decide +kernel
theorem own_d_method_2_code_10 : decode method_2_code 10 = .ok (.aload_n 0, 1) := by decide +kernel
theorem own_d_method_2_code_11 : decode method_2_code 11 = .ok (.iload_n 1, 1) := by decide +kernel
theorem own_d_method_2_code_12 : decode method_2_code 12 = .ok (.iaload, 1) := by decide +kernel
theorem own_d_method_2_code_13 : decode method_2_code 13 = .ok (.goto 4, 3) := by decide +kernel
theorem own_ef_own_r_at (m : MethodId) (x0 : Addr) (x1 : Int32) : entryFrame m #[(.ref x0), (.int x1)] 2 = mkF m 0 #[.val (.ref x0), .val (.int x1)] [] := by first | (simp [entryFrame, mkF, argsToLocals, Value.category]; done) | rfl
def own_Q_own_r_at (Z : State) (a : Addr) (k : ClassId) (z : Int32) (xs : List Int32) (pi : Int32) (h0 : Heap) (n0 : Nat) (v : Option Value) (h : Heap) (L : List Loc) : Prop := (v = some (.int (own_at xs z pi))) ∧ (Fr n0 L) ∧ (h = h0)
theorem own_pn705322622 : plainName "org/benli/core/BernsteinSignChangesPinLaw" = true := by first | (simp [plainName, overriddenIn]; done) | decide +kernel
set_option maxRecDepth 65536 in
set_option maxHeartbeats 40000000 in
theorem own_r_at (l : Launch) (Z : State) (a0 : Array Value) (hw : ∀ d ∈ tables_1, d.before a0 Z = true) (ws : List Jvm.Cond) (a : Addr) (k : ClassId) (z : Int32) (xs : List Int32) (pi : Int32) (h0 : Heap) (n0 : Nat) (Z0 : n0 ≤ h0.size) (V_a : Arv Z h0 a k .int z (xs.map Value.int) (.int (0 : Int32))) :
    MetFree l (⟨"org/benli/core/BernsteinSignChangesPinLaw", "at", "([II)I"⟩ : MethodName) (head1 (Jvm.Cond.code (⟨"org/benli/core/BernsteinSignChangesPinLaw", "at", "([II)I"⟩ : MethodName) method_2_code 2 (some .int) :: ws) ({ frames := 0, cells := 0, slots := 0, locals := 0 } : Room)) (fun xa xU => xa = #[(.ref a), (.int pi)] ∧ Z.Warmed39 xU.vm ∧ xU.heap = h0) (fun _ _ _ _ _ => True) (fun _ xU xo xV => ∃ v L, xo = .returned v ∧ own_Q_own_r_at Z a k z xs pi h0 n0 v xV.heap L ∧ FrameEnd xU xo xV L ({ frames := 0, cells := 0, slots := 0, locals := 0 } : Room).cells ({ frames := 0, cells := 0, slots := 0, locals := 0 } : Room).slots) := by
  refine MetFree.of_bodySF (plainFor_of_name own_pn705322622) hisR ?_
  intro p e s m args below meth c s₁ Bd hml0 hP hK
  obtain ⟨rfl, hZ, hh⟩ := hP
  have hx := Bd.exec
  have hby := Bd.bytes
  have hlk := Bd.notSynchronized
  have hret := Bd.returns
  have hml : c.maxLocals = 2 := hml0
  have hown : s.vm.findClass "org/benli/core/BernsteinSignChangesPinLaw" = some m.cls := findClass_of_methodNamed Bd.named
  have hnm := (name_of_methodNamed Bd.named Bd.method).1
  have X0 : Stand p l e ({ frames := 0, cells := 0, slots := 0, locals := 0 } : Room) s m #[(.ref a), (.int pi)] below meth c s₁ [] 0 0 := Stand.of_body Bd
  have e0 : s₁.heap = h0 := by rw [← hh, Bd.state]; rfl
  have N0 := Fr.nil n0
  show own_Gl p e below s (own_Q_own_r_at Z a k z xs pi h0 n0) ({ frames := 0, cells := 0, slots := 0, locals := 0 } : Room).cells ({ frames := 0, cells := 0, slots := 0, locals := 0 } : Room).slots _
  refine own_cast (own_ef_own_r_at m a pi) ?_
  show own_Gl _ _ _ _ _ _ _ (s₁.setTop (mkF m 0 #[.val (.ref a), .val (.int pi)] []))
  refine own_st (fun _ k => XS.iloadN X0.here hx rfl (hb hby own_d_method_2_code_0) rfl k) ?_
  show own_Gl _ _ _ _ _ _ _ (s₁.setTop (mkF m 1 #[.val (.ref a), .val (.int pi)] [(.int pi)]))
  by_cases hc1 : pi < (0 : Int32)
  · refine own_st (fun _ k => XS.ifYes X0.here hx rfl (pc0 := 1) (pc' := 16) rfl (hb hby own_d_method_2_code_1) rfl ((if0 _ _).trans (tlt hc1).1) (by decide) (by decide) k) ?_
    show own_Gl _ _ _ _ _ _ _ (s₁.setTop (mkF m 16 #[.val (.ref a), .val (.int pi)] []))
    refine own_st (fun _ k => XS.iconst X0.here hx rfl (hb hby own_d_method_2_code_16) k) ?_
    show own_Gl _ _ _ _ _ _ _ (s₁.setTop (mkF m 17 #[.val (.ref a), .val (.int pi)] [(.int (0 : Int32))]))
    exact own_retI X0 hx hlk hret (hb hby own_d_method_2_code_17) e0 ⟨by rw [own_at, if_pos hc1] <;> rfl, N0, rfl⟩ (by decide) (by decide)
  · refine own_st (fun _ k => XS.ifNo X0.here hx rfl (hb hby own_d_method_2_code_1) rfl ((if0 _ _).trans (flt hc1).1) k) ?_
    show own_Gl _ _ _ _ _ _ _ (s₁.setTop (mkF m 4 #[.val (.ref a), .val (.int pi)] []))
    refine own_st (fun _ k => XS.iloadN X0.here hx rfl (hb hby own_d_method_2_code_4) rfl k) ?_
    show own_Gl _ _ _ _ _ _ _ (s₁.setTop (mkF m 5 #[.val (.ref a), .val (.int pi)] [(.int pi)]))
    refine own_st (fun _ k => XS.aloadN X0.here hx rfl (hb hby own_d_method_2_code_5) rfl rfl k) ?_
    show own_Gl _ _ _ _ _ _ _ (s₁.setTop (mkF m 6 #[.val (.ref a), .val (.int pi)] [(.ref a), (.int pi)]))
    obtain ⟨cl1, Ar1, qq1, Ss1, Nn1, Hh1, Gg1⟩ := id V_a
    refine own_st (X0.arraylength hx (by rw [e0]; exact Ar1.1) (State.isArrayOf_alike hZ.alike Ar1.2.1) (g := (mkF m 6 #[.val (.ref a), .val (.int pi)] [(.ref a), (.int pi)])) rfl rfl (hb hby own_d_method_2_code_6)) ?_
    rw [len_of Ss1 Nn1]
    show own_Gl _ _ _ _ _ _ _ (s₁.setTop (mkF m 7 #[.val (.ref a), .val (.int pi)] [(.int z), (.int pi)]))
    by_cases hc7 : pi < z
    · refine own_st (fun _ k => XS.icmpNo X0.here hx rfl (hb hby own_d_method_2_code_7) rfl (tlt hc7).2.1 k) ?_
      show own_Gl _ _ _ _ _ _ _ (s₁.setTop (mkF m 10 #[.val (.ref a), .val (.int pi)] []))
      refine own_st (fun _ k => XS.aloadN X0.here hx rfl (hb hby own_d_method_2_code_10) rfl rfl k) ?_
      show own_Gl _ _ _ _ _ _ _ (s₁.setTop (mkF m 11 #[.val (.ref a), .val (.int pi)] [(.ref a)]))
      refine own_st (fun _ k => XS.iloadN X0.here hx rfl (hb hby own_d_method_2_code_11) rfl k) ?_
      show own_Gl _ _ _ _ _ _ _ (s₁.setTop (mkF m 12 #[.val (.ref a), .val (.int pi)] [(.int pi), (.ref a)]))
      obtain ⟨cl2, Ar2, qq2, Ss2, Nn2, Hh2, Gg2⟩ := id V_a
      have hin2 : ¬ (pi < 0 ∨ cl2.slots.size ≤ (pi).toNatClampNeg) := inb_of Ss2 ⟨hc1, hc7⟩
      have hat2 : cl2.slots[(pi).toNatClampNeg]? = some (.int (xs.getD pi.toNatClampNeg 0)) := Hh2.at hin2 (own_getD xs _)
      refine own_st (X0.iaload hx (j := pi) (v := (.int (xs.getD pi.toNatClampNeg 0))) (by rw [e0]; exact Ar2.1) (State.isArrayOf_alike hZ.alike Ar2.2.1) Ar2.2.2 hin2 hat2 (g := (mkF m 12 #[.val (.ref a), .val (.int pi)] [(.int pi), (.ref a)])) rfl rfl (hb hby own_d_method_2_code_12)) ?_
      show own_Gl _ _ _ _ _ _ _ (s₁.setTop (mkF m 13 #[.val (.ref a), .val (.int pi)] [(.int (xs.getD pi.toNatClampNeg 0))]))
      refine own_st (fun _ k => XS.goto X0.here hx rfl (pc0 := 13) (pc' := 17) rfl (hb hby own_d_method_2_code_13) (by decide) (by decide) k) ?_
      show own_Gl _ _ _ _ _ _ _ (s₁.setTop (mkF m 17 #[.val (.ref a), .val (.int pi)] [(.int (xs.getD pi.toNatClampNeg 0))]))
      exact own_retI X0 hx hlk hret (hb hby own_d_method_2_code_17) e0 ⟨by rw [own_at, if_neg hc1, if_pos hc7] <;> rfl, N0, rfl⟩ (by decide) (by decide)
    · refine own_st (fun _ k => XS.icmpYes X0.here hx rfl (pc0 := 7) (pc' := 16) rfl (hb hby own_d_method_2_code_7) rfl (flt hc7).2.1 (by decide) (by decide) k) ?_
      show own_Gl _ _ _ _ _ _ _ (s₁.setTop (mkF m 16 #[.val (.ref a), .val (.int pi)] []))
      refine own_st (fun _ k => XS.iconst X0.here hx rfl (hb hby own_d_method_2_code_16) k) ?_
      show own_Gl _ _ _ _ _ _ _ (s₁.setTop (mkF m 17 #[.val (.ref a), .val (.int pi)] [(.int (0 : Int32))]))
      exact own_retI X0 hx hlk hret (hb hby own_d_method_2_code_17) e0 ⟨by rw [own_at, if_neg hc1, if_neg hc7] <;> rfl, N0, rfl⟩ (by decide) (by decide)
theorem own_d_method_3_code_0 : decode method_3_code 0 = .ok (.iload_n 0, 1) := by decide +kernel
theorem own_d_method_3_code_1 : decode method_3_code 1 = .ok (.ifCond .eq 12, 3) := by decide +kernel
theorem own_d_method_3_code_13 : decode method_3_code 13 = .ok (.iconst 1, 1) := by decide +kernel
theorem own_d_method_3_code_14 : decode method_3_code 14 = .ok (.goto 4, 3) := by decide +kernel
theorem own_d_method_3_code_18 : decode method_3_code 18 = .ok (.ireturn, 1) := by decide +kernel
theorem own_d_method_3_code_4 : decode method_3_code 4 = .ok (.iload_n 1, 1) := by decide +kernel
theorem own_d_method_3_code_5 : decode method_3_code 5 = .ok (.ifCond .eq 12, 3) := by decide +kernel
theorem own_d_method_3_code_17 : decode method_3_code 17 = .ok (.iconst 0, 1) := by decide +kernel
theorem own_d_method_3_code_8 : decode method_3_code 8 = .ok (.iload_n 0, 1) := by decide +kernel
theorem own_d_method_3_code_9 : decode method_3_code 9 = .ok (.iconst 2, 1) := by decide +kernel
theorem own_d_method_3_code_10 : decode method_3_code 10 = .ok (.if_icmp .ne 7, 3) := by decide +kernel
theorem own_ef_own_r_skip (m : MethodId) (x0 : Int32) (x1 : Int32) : entryFrame m #[(.int x0), (.int x1)] 2 = mkF m 0 #[.val (.int x0), .val (.int x1)] [] := by first | (simp [entryFrame, mkF, argsToLocals, Value.category]; done) | rfl
def own_Q_own_r_skip (Z : State) (p1 : Int32) (p2 : Int32) (h0 : Heap) (n0 : Nat) (v : Option Value) (h : Heap) (L : List Loc) : Prop := (v = some (.int (own_skip p1 p2))) ∧ (Fr n0 L) ∧ (h = h0)
set_option maxRecDepth 65536 in
set_option maxHeartbeats 40000000 in
theorem own_r_skip (l : Launch) (Z : State) (a0 : Array Value) (hw : ∀ d ∈ tables_1, d.before a0 Z = true) (ws : List Jvm.Cond) (p1 : Int32) (p2 : Int32) (h0 : Heap) (n0 : Nat) (Z0 : n0 ≤ h0.size) :
    MetFree l (⟨"org/benli/core/BernsteinSignChangesPinLaw", "skip", "(IZ)Z"⟩ : MethodName) (head1 (Jvm.Cond.code (⟨"org/benli/core/BernsteinSignChangesPinLaw", "skip", "(IZ)Z"⟩ : MethodName) method_3_code 2 (some .boolean) :: ws) ({ frames := 0, cells := 0, slots := 0, locals := 0 } : Room)) (fun xa xU => xa = #[(.int p1), (.int p2)] ∧ Z.Warmed39 xU.vm ∧ xU.heap = h0) (fun _ _ _ _ _ => True) (fun _ xU xo xV => ∃ v L, xo = .returned v ∧ own_Q_own_r_skip Z p1 p2 h0 n0 v xV.heap L ∧ FrameEnd xU xo xV L ({ frames := 0, cells := 0, slots := 0, locals := 0 } : Room).cells ({ frames := 0, cells := 0, slots := 0, locals := 0 } : Room).slots) := by
  refine MetFree.of_bodySF (plainFor_of_name own_pn705322622) hisR ?_
  intro p e s m args below meth c s₁ Bd hml0 hP hK
  obtain ⟨rfl, hZ, hh⟩ := hP
  have hx := Bd.exec
  have hby := Bd.bytes
  have hlk := Bd.notSynchronized
  have hret := Bd.returns
  have hml : c.maxLocals = 2 := hml0
  have hown : s.vm.findClass "org/benli/core/BernsteinSignChangesPinLaw" = some m.cls := findClass_of_methodNamed Bd.named
  have hnm := (name_of_methodNamed Bd.named Bd.method).1
  have X0 : Stand p l e ({ frames := 0, cells := 0, slots := 0, locals := 0 } : Room) s m #[(.int p1), (.int p2)] below meth c s₁ [] 0 0 := Stand.of_body Bd
  have e0 : s₁.heap = h0 := by rw [← hh, Bd.state]; rfl
  have N0 := Fr.nil n0
  show own_Gl p e below s (own_Q_own_r_skip Z p1 p2 h0 n0) ({ frames := 0, cells := 0, slots := 0, locals := 0 } : Room).cells ({ frames := 0, cells := 0, slots := 0, locals := 0 } : Room).slots _
  refine own_cast (own_ef_own_r_skip m p1 p2) ?_
  show own_Gl _ _ _ _ _ _ _ (s₁.setTop (mkF m 0 #[.val (.int p1), .val (.int p2)] []))
  refine own_st (fun _ k => XS.iloadN X0.here hx rfl (hb hby own_d_method_3_code_0) rfl k) ?_
  show own_Gl _ _ _ _ _ _ _ (s₁.setTop (mkF m 1 #[.val (.int p1), .val (.int p2)] [(.int p1)]))
  by_cases hc1 : p1 = (0 : Int32)
  · refine own_st (fun _ k => XS.ifYes X0.here hx rfl (pc0 := 1) (pc' := 13) rfl (hb hby own_d_method_3_code_1) rfl ((if0 _ _).trans (teq hc1).1) (by decide) (by decide) k) ?_
    show own_Gl _ _ _ _ _ _ _ (s₁.setTop (mkF m 13 #[.val (.int p1), .val (.int p2)] []))
    refine own_st (fun _ k => XS.iconst X0.here hx rfl (hb hby own_d_method_3_code_13) k) ?_
    show own_Gl _ _ _ _ _ _ _ (s₁.setTop (mkF m 14 #[.val (.int p1), .val (.int p2)] [(.int (1 : Int32))]))
    refine own_st (fun _ k => XS.goto X0.here hx rfl (pc0 := 14) (pc' := 18) rfl (hb hby own_d_method_3_code_14) (by decide) (by decide) k) ?_
    show own_Gl _ _ _ _ _ _ _ (s₁.setTop (mkF m 18 #[.val (.int p1), .val (.int p2)] [(.int (1 : Int32))]))
    exact own_retN X0 hx hlk (t := .boolean) hret (by simp) (hb hby own_d_method_3_code_18) e0 ⟨by rw [own_skip, if_pos hc1] <;> rfl, N0, rfl⟩ (by decide) (by decide)
  · refine own_st (fun _ k => XS.ifNo X0.here hx rfl (hb hby own_d_method_3_code_1) rfl ((if0 _ _).trans (feq hc1).1) k) ?_
    show own_Gl _ _ _ _ _ _ _ (s₁.setTop (mkF m 4 #[.val (.int p1), .val (.int p2)] []))
    refine own_st (fun _ k => XS.iloadN X0.here hx rfl (hb hby own_d_method_3_code_4) rfl k) ?_
    show own_Gl _ _ _ _ _ _ _ (s₁.setTop (mkF m 5 #[.val (.int p1), .val (.int p2)] [(.int p2)]))
    by_cases hc5 : p2 = (0 : Int32)
    · refine own_st (fun _ k => XS.ifYes X0.here hx rfl (pc0 := 5) (pc' := 17) rfl (hb hby own_d_method_3_code_5) rfl ((if0 _ _).trans (teq hc5).1) (by decide) (by decide) k) ?_
      show own_Gl _ _ _ _ _ _ _ (s₁.setTop (mkF m 17 #[.val (.int p1), .val (.int p2)] []))
      refine own_st (fun _ k => XS.iconst X0.here hx rfl (hb hby own_d_method_3_code_17) k) ?_
      show own_Gl _ _ _ _ _ _ _ (s₁.setTop (mkF m 18 #[.val (.int p1), .val (.int p2)] [(.int (0 : Int32))]))
      exact own_retN X0 hx hlk (t := .boolean) hret (by simp) (hb hby own_d_method_3_code_18) e0 ⟨by rw [own_skip, if_neg hc1, if_pos hc5] <;> rfl, N0, rfl⟩ (by decide) (by decide)
    · refine own_st (fun _ k => XS.ifNo X0.here hx rfl (hb hby own_d_method_3_code_5) rfl ((if0 _ _).trans (feq hc5).1) k) ?_
      show own_Gl _ _ _ _ _ _ _ (s₁.setTop (mkF m 8 #[.val (.int p1), .val (.int p2)] []))
      refine own_st (fun _ k => XS.iloadN X0.here hx rfl (hb hby own_d_method_3_code_8) rfl k) ?_
      show own_Gl _ _ _ _ _ _ _ (s₁.setTop (mkF m 9 #[.val (.int p1), .val (.int p2)] [(.int p1)]))
      refine own_st (fun _ k => XS.iconst X0.here hx rfl (hb hby own_d_method_3_code_9) k) ?_
      show own_Gl _ _ _ _ _ _ _ (s₁.setTop (mkF m 10 #[.val (.int p1), .val (.int p2)] [(.int (2 : Int32)), (.int p1)]))
      by_cases hc10 : p1 = (2 : Int32)
      · refine own_st (fun _ k => XS.icmpNo X0.here hx rfl (hb hby own_d_method_3_code_10) rfl (teq hc10).2 k) ?_
        show own_Gl _ _ _ _ _ _ _ (s₁.setTop (mkF m 13 #[.val (.int p1), .val (.int p2)] []))
        refine own_st (fun _ k => XS.iconst X0.here hx rfl (hb hby own_d_method_3_code_13) k) ?_
        show own_Gl _ _ _ _ _ _ _ (s₁.setTop (mkF m 14 #[.val (.int p1), .val (.int p2)] [(.int (1 : Int32))]))
        refine own_st (fun _ k => XS.goto X0.here hx rfl (pc0 := 14) (pc' := 18) rfl (hb hby own_d_method_3_code_14) (by decide) (by decide) k) ?_
        show own_Gl _ _ _ _ _ _ _ (s₁.setTop (mkF m 18 #[.val (.int p1), .val (.int p2)] [(.int (1 : Int32))]))
        exact own_retN X0 hx hlk (t := .boolean) hret (by simp) (hb hby own_d_method_3_code_18) e0 ⟨by rw [own_skip, if_neg hc1, if_neg hc5, if_pos hc10] <;> rfl, N0, rfl⟩ (by decide) (by decide)
      · refine own_st (fun _ k => XS.icmpYes X0.here hx rfl (pc0 := 10) (pc' := 17) rfl (hb hby own_d_method_3_code_10) rfl (feq hc10).2 (by decide) (by decide) k) ?_
        show own_Gl _ _ _ _ _ _ _ (s₁.setTop (mkF m 17 #[.val (.int p1), .val (.int p2)] []))
        refine own_st (fun _ k => XS.iconst X0.here hx rfl (hb hby own_d_method_3_code_17) k) ?_
        show own_Gl _ _ _ _ _ _ _ (s₁.setTop (mkF m 18 #[.val (.int p1), .val (.int p2)] [(.int (0 : Int32))]))
        exact own_retN X0 hx hlk (t := .boolean) hret (by simp) (hb hby own_d_method_3_code_18) e0 ⟨by rw [own_skip, if_neg hc1, if_neg hc5, if_neg hc10] <;> rfl, N0, rfl⟩ (by decide) (by decide)
theorem own_d_method_5_code_0 : decode method_5_code 0 = .ok (.iload_n 0, 1) := by decide +kernel
theorem own_d_method_5_code_1 : decode method_5_code 1 = .ok (.iconst 1, 1) := by decide +kernel
theorem own_d_method_5_code_2 : decode method_5_code 2 = .ok (.if_icmp .eq 8, 3) := by decide +kernel
theorem own_d_method_5_code_10 : decode method_5_code 10 = .ok (.iconst 1, 1) := by decide +kernel
theorem own_d_method_5_code_11 : decode method_5_code 11 = .ok (.goto 4, 3) := by decide +kernel
theorem own_d_method_5_code_15 : decode method_5_code 15 = .ok (.ireturn, 1) := by decide +kernel
theorem own_d_method_5_code_5 : decode method_5_code 5 = .ok (.iload_n 0, 1) := by decide +kernel
theorem own_d_method_5_code_6 : decode method_5_code 6 = .ok (.iconst (-1), 1) := by decide +kernel
theorem own_d_method_5_code_7 : decode method_5_code 7 = .ok (.if_icmp .ne 7, 3) := by decide +kernel
theorem own_d_method_5_code_14 : decode method_5_code 14 = .ok (.iconst 0, 1) := by decide +kernel
theorem own_ef_own_r_known (m : MethodId) (x0 : Int32) : entryFrame m #[(.int x0)] 1 = mkF m 0 #[.val (.int x0)] [] := by first | (simp [entryFrame, mkF, argsToLocals, Value.category]; done) | rfl
def own_Q_own_r_known (Z : State) (p1 : Int32) (h0 : Heap) (n0 : Nat) (v : Option Value) (h : Heap) (L : List Loc) : Prop := (v = some (.int (own_known p1))) ∧ (Fr n0 L) ∧ (h = h0)
set_option maxRecDepth 65536 in
set_option maxHeartbeats 40000000 in
theorem own_r_known (l : Launch) (Z : State) (a0 : Array Value) (hw : ∀ d ∈ tables_1, d.before a0 Z = true) (ws : List Jvm.Cond) (p1 : Int32) (h0 : Heap) (n0 : Nat) (Z0 : n0 ≤ h0.size) :
    MetFree l (⟨"org/benli/core/BernsteinSignChangesPinLaw", "known", "(I)Z"⟩ : MethodName) (head1 (Jvm.Cond.code (⟨"org/benli/core/BernsteinSignChangesPinLaw", "known", "(I)Z"⟩ : MethodName) method_5_code 1 (some .boolean) :: ws) ({ frames := 0, cells := 0, slots := 0, locals := 0 } : Room)) (fun xa xU => xa = #[(.int p1)] ∧ Z.Warmed39 xU.vm ∧ xU.heap = h0) (fun _ _ _ _ _ => True) (fun _ xU xo xV => ∃ v L, xo = .returned v ∧ own_Q_own_r_known Z p1 h0 n0 v xV.heap L ∧ FrameEnd xU xo xV L ({ frames := 0, cells := 0, slots := 0, locals := 0 } : Room).cells ({ frames := 0, cells := 0, slots := 0, locals := 0 } : Room).slots) := by
  refine MetFree.of_bodySF (plainFor_of_name own_pn705322622) hisR ?_
  intro p e s m args below meth c s₁ Bd hml0 hP hK
  obtain ⟨rfl, hZ, hh⟩ := hP
  have hx := Bd.exec
  have hby := Bd.bytes
  have hlk := Bd.notSynchronized
  have hret := Bd.returns
  have hml : c.maxLocals = 1 := hml0
  have hown : s.vm.findClass "org/benli/core/BernsteinSignChangesPinLaw" = some m.cls := findClass_of_methodNamed Bd.named
  have hnm := (name_of_methodNamed Bd.named Bd.method).1
  have X0 : Stand p l e ({ frames := 0, cells := 0, slots := 0, locals := 0 } : Room) s m #[(.int p1)] below meth c s₁ [] 0 0 := Stand.of_body Bd
  have e0 : s₁.heap = h0 := by rw [← hh, Bd.state]; rfl
  have N0 := Fr.nil n0
  show own_Gl p e below s (own_Q_own_r_known Z p1 h0 n0) ({ frames := 0, cells := 0, slots := 0, locals := 0 } : Room).cells ({ frames := 0, cells := 0, slots := 0, locals := 0 } : Room).slots _
  refine own_cast (own_ef_own_r_known m p1) ?_
  show own_Gl _ _ _ _ _ _ _ (s₁.setTop (mkF m 0 #[.val (.int p1)] []))
  refine own_st (fun _ k => XS.iloadN X0.here hx rfl (hb hby own_d_method_5_code_0) rfl k) ?_
  show own_Gl _ _ _ _ _ _ _ (s₁.setTop (mkF m 1 #[.val (.int p1)] [(.int p1)]))
  refine own_st (fun _ k => XS.iconst X0.here hx rfl (hb hby own_d_method_5_code_1) k) ?_
  show own_Gl _ _ _ _ _ _ _ (s₁.setTop (mkF m 2 #[.val (.int p1)] [(.int (1 : Int32)), (.int p1)]))
  by_cases hc2 : p1 = (1 : Int32)
  · refine own_st (fun _ k => XS.icmpYes X0.here hx rfl (pc0 := 2) (pc' := 10) rfl (hb hby own_d_method_5_code_2) rfl (teq hc2).1 (by decide) (by decide) k) ?_
    show own_Gl _ _ _ _ _ _ _ (s₁.setTop (mkF m 10 #[.val (.int p1)] []))
    refine own_st (fun _ k => XS.iconst X0.here hx rfl (hb hby own_d_method_5_code_10) k) ?_
    show own_Gl _ _ _ _ _ _ _ (s₁.setTop (mkF m 11 #[.val (.int p1)] [(.int (1 : Int32))]))
    refine own_st (fun _ k => XS.goto X0.here hx rfl (pc0 := 11) (pc' := 15) rfl (hb hby own_d_method_5_code_11) (by decide) (by decide) k) ?_
    show own_Gl _ _ _ _ _ _ _ (s₁.setTop (mkF m 15 #[.val (.int p1)] [(.int (1 : Int32))]))
    exact own_retN X0 hx hlk (t := .boolean) hret (by simp) (hb hby own_d_method_5_code_15) e0 ⟨by rw [own_known, if_pos hc2] <;> rfl, N0, rfl⟩ (by decide) (by decide)
  · refine own_st (fun _ k => XS.icmpNo X0.here hx rfl (hb hby own_d_method_5_code_2) rfl (feq hc2).1 k) ?_
    show own_Gl _ _ _ _ _ _ _ (s₁.setTop (mkF m 5 #[.val (.int p1)] []))
    refine own_st (fun _ k => XS.iloadN X0.here hx rfl (hb hby own_d_method_5_code_5) rfl k) ?_
    show own_Gl _ _ _ _ _ _ _ (s₁.setTop (mkF m 6 #[.val (.int p1)] [(.int p1)]))
    refine own_st (fun _ k => XS.iconst X0.here hx rfl (hb hby own_d_method_5_code_6) k) ?_
    show own_Gl _ _ _ _ _ _ _ (s₁.setTop (mkF m 7 #[.val (.int p1)] [(.int (-1 : Int32)), (.int p1)]))
    by_cases hc7 : p1 = (-1 : Int32)
    · refine own_st (fun _ k => XS.icmpNo X0.here hx rfl (hb hby own_d_method_5_code_7) rfl (teq hc7).2 k) ?_
      show own_Gl _ _ _ _ _ _ _ (s₁.setTop (mkF m 10 #[.val (.int p1)] []))
      refine own_st (fun _ k => XS.iconst X0.here hx rfl (hb hby own_d_method_5_code_10) k) ?_
      show own_Gl _ _ _ _ _ _ _ (s₁.setTop (mkF m 11 #[.val (.int p1)] [(.int (1 : Int32))]))
      refine own_st (fun _ k => XS.goto X0.here hx rfl (pc0 := 11) (pc' := 15) rfl (hb hby own_d_method_5_code_11) (by decide) (by decide) k) ?_
      show own_Gl _ _ _ _ _ _ _ (s₁.setTop (mkF m 15 #[.val (.int p1)] [(.int (1 : Int32))]))
      exact own_retN X0 hx hlk (t := .boolean) hret (by simp) (hb hby own_d_method_5_code_15) e0 ⟨by rw [own_known, if_neg hc2, if_pos hc7] <;> rfl, N0, rfl⟩ (by decide) (by decide)
    · refine own_st (fun _ k => XS.icmpYes X0.here hx rfl (pc0 := 7) (pc' := 14) rfl (hb hby own_d_method_5_code_7) rfl (feq hc7).2 (by decide) (by decide) k) ?_
      show own_Gl _ _ _ _ _ _ _ (s₁.setTop (mkF m 14 #[.val (.int p1)] []))
      refine own_st (fun _ k => XS.iconst X0.here hx rfl (hb hby own_d_method_5_code_14) k) ?_
      show own_Gl _ _ _ _ _ _ _ (s₁.setTop (mkF m 15 #[.val (.int p1)] [(.int (0 : Int32))]))
      exact own_retN X0 hx hlk (t := .boolean) hret (by simp) (hb hby own_d_method_5_code_15) e0 ⟨by rw [own_known, if_neg hc2, if_neg hc7] <;> rfl, N0, rfl⟩ (by decide) (by decide)
theorem own_d_method_4_code_0 : decode method_4_code 0 = .ok (.aload_n 0, 1) := by decide +kernel
theorem own_d_method_4_code_1 : decode method_4_code 1 = .ok (.iload_n 1, 1) := by decide +kernel
theorem own_d_method_4_code_2 : decode method_4_code 2 = .ok (.iload_n 2, 1) := by decide +kernel
theorem own_d_method_4_code_3 : decode method_4_code 3 = .ok (.iadd, 1) := by decide +kernel
theorem own_d_method_4_code_4 : decode method_4_code 4 = .ok (.invokestatic 9, 3) := by decide +kernel
theorem own_pd144447691 : parseMethodDescriptor "([II)I" = some ⟨[(.array .int), .int], some .int⟩ := by decide +kernel
theorem own_d_method_4_code_7 : decode method_4_code 7 = .ok (.istore 4, 2) := by decide +kernel
theorem own_d_method_4_code_9 : decode method_4_code 9 = .ok (.iload 4, 2) := by decide +kernel
theorem own_d_method_4_code_11 : decode method_4_code 11 = .ok (.iload_n 3, 1) := by decide +kernel
theorem own_d_method_4_code_12 : decode method_4_code 12 = .ok (.invokestatic 15, 3) := by decide +kernel
theorem own_pd945657434 : parseMethodDescriptor "(IZ)Z" = some ⟨[.int, .boolean], some .boolean⟩ := by decide +kernel
theorem own_d_method_4_code_15 : decode method_4_code 15 = .ok (.ifCond .ne 6, 3) := by decide +kernel
theorem own_d_method_4_code_18 : decode method_4_code 18 = .ok (.iload 4, 2) := by decide +kernel
theorem own_d_method_4_code_20 : decode method_4_code 20 = .ok (.ireturn, 1) := by decide +kernel
theorem own_d_method_4_code_21 : decode method_4_code 21 = .ok (.aload_n 0, 1) := by decide +kernel
theorem own_d_method_4_code_22 : decode method_4_code 22 = .ok (.iload_n 1, 1) := by decide +kernel
theorem own_d_method_4_code_23 : decode method_4_code 23 = .ok (.iconst 2, 1) := by decide +kernel
theorem own_d_method_4_code_24 : decode method_4_code 24 = .ok (.iload_n 2, 1) := by decide +kernel
theorem own_d_method_4_code_25 : decode method_4_code 25 = .ok (.imul, 1) := by decide +kernel
theorem own_d_method_4_code_26 : decode method_4_code 26 = .ok (.iadd, 1) := by decide +kernel
theorem own_d_method_4_code_27 : decode method_4_code 27 = .ok (.invokestatic 9, 3) := by decide +kernel
theorem own_d_method_4_code_30 : decode method_4_code 30 = .ok (.istore 4, 2) := by decide +kernel
theorem own_d_method_4_code_32 : decode method_4_code 32 = .ok (.iload 4, 2) := by decide +kernel
theorem own_d_method_4_code_34 : decode method_4_code 34 = .ok (.iload_n 3, 1) := by decide +kernel
theorem own_d_method_4_code_35 : decode method_4_code 35 = .ok (.invokestatic 15, 3) := by decide +kernel
theorem own_d_method_4_code_38 : decode method_4_code 38 = .ok (.ifCond .ne 6, 3) := by decide +kernel
theorem own_d_method_4_code_41 : decode method_4_code 41 = .ok (.iload 4, 2) := by decide +kernel
theorem own_d_method_4_code_43 : decode method_4_code 43 = .ok (.ireturn, 1) := by decide +kernel
theorem own_d_method_4_code_44 : decode method_4_code 44 = .ok (.aload_n 0, 1) := by decide +kernel
theorem own_d_method_4_code_45 : decode method_4_code 45 = .ok (.iload_n 1, 1) := by decide +kernel
theorem own_d_method_4_code_46 : decode method_4_code 46 = .ok (.iconst 3, 1) := by decide +kernel
theorem own_d_method_4_code_47 : decode method_4_code 47 = .ok (.iload_n 2, 1) := by decide +kernel
theorem own_d_method_4_code_48 : decode method_4_code 48 = .ok (.imul, 1) := by decide +kernel
theorem own_d_method_4_code_49 : decode method_4_code 49 = .ok (.iadd, 1) := by decide +kernel
theorem own_d_method_4_code_50 : decode method_4_code 50 = .ok (.invokestatic 9, 3) := by decide +kernel
theorem own_d_method_4_code_53 : decode method_4_code 53 = .ok (.istore 4, 2) := by decide +kernel
theorem own_d_method_4_code_55 : decode method_4_code 55 = .ok (.iload 4, 2) := by decide +kernel
theorem own_d_method_4_code_57 : decode method_4_code 57 = .ok (.iload_n 3, 1) := by decide +kernel
theorem own_d_method_4_code_58 : decode method_4_code 58 = .ok (.invokestatic 15, 3) := by decide +kernel
theorem own_d_method_4_code_61 : decode method_4_code 61 = .ok (.ifCond .ne 6, 3) := by decide +kernel
theorem own_d_method_4_code_64 : decode method_4_code 64 = .ok (.iload 4, 2) := by decide +kernel
theorem own_d_method_4_code_66 : decode method_4_code 66 = .ok (.ireturn, 1) := by decide +kernel
theorem own_d_method_4_code_67 : decode method_4_code 67 = .ok (.aload_n 0, 1) := by decide +kernel
theorem own_d_method_4_code_68 : decode method_4_code 68 = .ok (.iload_n 1, 1) := by decide +kernel
theorem own_d_method_4_code_69 : decode method_4_code 69 = .ok (.iconst 4, 1) := by decide +kernel
theorem own_d_method_4_code_70 : decode method_4_code 70 = .ok (.iload_n 2, 1) := by decide +kernel
theorem own_d_method_4_code_71 : decode method_4_code 71 = .ok (.imul, 1) := by decide +kernel
theorem own_d_method_4_code_72 : decode method_4_code 72 = .ok (.iadd, 1) := by decide +kernel
theorem own_d_method_4_code_73 : decode method_4_code 73 = .ok (.invokestatic 9, 3) := by decide +kernel
theorem own_d_method_4_code_76 : decode method_4_code 76 = .ok (.istore 4, 2) := by decide +kernel
theorem own_d_method_4_code_78 : decode method_4_code 78 = .ok (.iload 4, 2) := by decide +kernel
theorem own_d_method_4_code_80 : decode method_4_code 80 = .ok (.iload_n 3, 1) := by decide +kernel
theorem own_d_method_4_code_81 : decode method_4_code 81 = .ok (.invokestatic 15, 3) := by decide +kernel
theorem own_d_method_4_code_84 : decode method_4_code 84 = .ok (.ifCond .ne 6, 3) := by decide +kernel
theorem own_d_method_4_code_87 : decode method_4_code 87 = .ok (.iload 4, 2) := by decide +kernel
theorem own_d_method_4_code_89 : decode method_4_code 89 = .ok (.ireturn, 1) := by decide +kernel
theorem own_d_method_4_code_90 : decode method_4_code 90 = .ok (.iconst 0, 1) := by decide +kernel
theorem own_d_method_4_code_91 : decode method_4_code 91 = .ok (.ireturn, 1) := by decide +kernel
theorem own_ef_own_r_near (m : MethodId) (x0 : Addr) (x1 : Int32) (x2 : Int32) (x3 : Int32) : entryFrame m #[(.ref x0), (.int x1), (.int x2), (.int x3)] 5 = mkF m 0 #[.val (.ref x0), .val (.int x1), .val (.int x2), .val (.int x3), .unset] [] := by first | (simp [entryFrame, mkF, argsToLocals, Value.category]; done) | rfl
def own_Q_own_r_near (Z : State) (a : Addr) (k : ClassId) (z : Int32) (xs : List Int32) (pk : Int32) (pd : Int32) (pu : Int32) (h0 : Heap) (n0 : Nat) (v : Option Value) (h : Heap) (L : List Loc) : Prop := (v = some (.int (own_near xs z pk pd pu))) ∧ (Fr n0 L) ∧ (h = h0)
set_option maxRecDepth 65536 in
set_option maxHeartbeats 40000000 in
theorem own_r_near (l : Launch) (Z : State) (a0 : Array Value) (hw : ∀ d ∈ tables_1, d.before a0 Z = true) (ws : List Jvm.Cond) (a : Addr) (k : ClassId) (z : Int32) (xs : List Int32) (pk : Int32) (pd : Int32) (pu : Int32) (h0 : Heap) (n0 : Nat) (Z0 : n0 ≤ h0.size) (V_a : Arv Z h0 a k .int z (xs.map Value.int) (.int (0 : Int32))) :
    MetFree l (⟨"org/benli/core/BernsteinSignChangesPinLaw", "near", "([IIIZ)I"⟩ : MethodName) (head1 (Jvm.Cond.code (⟨"org/benli/core/BernsteinSignChangesPinLaw", "near", "([IIIZ)I"⟩ : MethodName) method_4_code 5 (some .int) :: ws) ({ frames := 1, cells := 0, slots := 0, locals := 13 } : Room)) (fun xa xU => xa = #[(.ref a), (.int pk), (.int pd), (.int pu)] ∧ Z.Warmed39 xU.vm ∧ xU.heap = h0) (fun _ _ _ _ _ => True) (fun _ xU xo xV => ∃ v L, xo = .returned v ∧ own_Q_own_r_near Z a k z xs pk pd pu h0 n0 v xV.heap L ∧ FrameEnd xU xo xV L ({ frames := 1, cells := 0, slots := 0, locals := 13 } : Room).cells ({ frames := 1, cells := 0, slots := 0, locals := 13 } : Room).slots) := by
  refine MetFree.of_bodySF (plainFor_of_name own_pn705322622) hisR ?_
  intro p e s m args below meth c s₁ Bd hml0 hP hK
  obtain ⟨rfl, hZ, hh⟩ := hP
  have hx := Bd.exec
  have hby := Bd.bytes
  have hlk := Bd.notSynchronized
  have hret := Bd.returns
  have hml : c.maxLocals = 5 := hml0
  have hown : s.vm.findClass "org/benli/core/BernsteinSignChangesPinLaw" = some m.cls := findClass_of_methodNamed Bd.named
  have hnm := (name_of_methodNamed Bd.named Bd.method).1
  have X0 : Stand p l e ({ frames := 1, cells := 0, slots := 0, locals := 13 } : Room) s m #[(.ref a), (.int pk), (.int pd), (.int pu)] below meth c s₁ [] 0 0 := Stand.of_body Bd
  have e0 : s₁.heap = h0 := by rw [← hh, Bd.state]; rfl
  have N0 := Fr.nil n0
  show own_Gl p e below s (own_Q_own_r_near Z a k z xs pk pd pu h0 n0) ({ frames := 1, cells := 0, slots := 0, locals := 13 } : Room).cells ({ frames := 1, cells := 0, slots := 0, locals := 13 } : Room).slots _
  refine own_cast (own_ef_own_r_near m a pk pd pu) ?_
  show own_Gl _ _ _ _ _ _ _ (s₁.setTop (mkF m 0 #[.val (.ref a), .val (.int pk), .val (.int pd), .val (.int pu), .unset] []))
  refine own_st (fun _ k => XS.aloadN X0.here hx rfl (hb hby own_d_method_4_code_0) rfl rfl k) ?_
  show own_Gl _ _ _ _ _ _ _ (s₁.setTop (mkF m 1 #[.val (.ref a), .val (.int pk), .val (.int pd), .val (.int pu), .unset] [(.ref a)]))
  refine own_st (fun _ k => XS.iloadN X0.here hx rfl (hb hby own_d_method_4_code_1) rfl k) ?_
  show own_Gl _ _ _ _ _ _ _ (s₁.setTop (mkF m 2 #[.val (.ref a), .val (.int pk), .val (.int pd), .val (.int pu), .unset] [(.int pk), (.ref a)]))
  refine own_st (fun _ k => XS.iloadN X0.here hx rfl (hb hby own_d_method_4_code_2) rfl k) ?_
  show own_Gl _ _ _ _ _ _ _ (s₁.setTop (mkF m 3 #[.val (.ref a), .val (.int pk), .val (.int pd), .val (.int pu), .unset] [(.int pd), (.int pk), (.ref a)]))
  refine own_st (fun _ k => XS.iadd X0.here hx rfl (hb hby own_d_method_4_code_3) rfl k) ?_
  show own_Gl _ _ _ _ _ _ _ (s₁.setTop (mkF m 4 #[.val (.ref a), .val (.int pk), .val (.int pd), .val (.int pu), .unset] [(.int (pk + pd)), (.ref a)]))
  obtain ⟨_, _, ⟨T1, L1, k1, n1⟩, -, X1, ⟨Lc1, hQ1, l1, y1, z1⟩, st1⟩ := Jvm.LawKit.callS X0 hx (y := (⟨"org/benli/core/BernsteinSignChangesPinLaw", "at", "([II)I"⟩ : MethodName)) hown (mvT hZ (hw _ (List.mem_of_getElem? (i := 10) rfl))) (mvT hZ (hw _ (List.mem_of_getElem? (i := 11) rfl))) (mvT hZ (hw _ (List.mem_of_getElem? (i := 8) rfl))) (mvT hZ (hw _ (List.mem_of_getElem? (i := 12) rfl))) (by decide) (backOf (W := 0) (own_r_at l Z a0 hw [] a k z xs (pk + pd) h0 n0 Z0 V_a) hZ (hw _ (List.mem_of_getElem? (i := 12) rfl)) (hw _ (List.mem_of_getElem? (i := 8) rfl)) (by decide) (by decide)) (g := (mkF m 4 #[.val (.ref a), .val (.int pk), .val (.int pd), .val (.int pu), .unset] [(.int (pk + pd)), (.ref a)])) rfl (by rw [hml]; rfl) (argsL := [(.ref a), (.int (pk + pd))]) (rest := []) (lenOf own_pd144447691 rfl) rfl (by show 2 * 0 + _ ≤ _; exact Nat.le_of_eq rfl) (hb hby own_d_method_4_code_4) (fun _ _ => ⟨rfl, e0, (by decide : 0 + 0 ≤ ({ frames := 1, cells := 0, slots := 0, locals := 13 } : Room).cells), (by decide : 0 + 0 ≤ ({ frames := 1, cells := 0, slots := 0, locals := 13 } : Room).slots)⟩)
  dsimp only [Pt.U, Pt.locs, Pt.cells, Pt.slots] at X1 l1 y1 z1 st1 hQ1
  subst l1 y1 z1
  obtain ⟨hh1, eh01⟩ : ∃ z, T1.heap = z := ⟨_, rfl⟩
  rw [eh01] at hQ1
  obtain ⟨rfl, Nq1, eh1⟩ := hQ1
  have N1 := Fr.app N0 Nq1
  refine own_st st1 ?_
  have e1 : T1.heap = h0 := eh01.trans eh1
  show own_Gl _ _ _ _ _ _ _ (T1.setTop (mkF m 7 #[.val (.ref a), .val (.int pk), .val (.int pd), .val (.int pu), .unset] [(.int (own_at xs z (pk + pd)))]))
  refine own_st (fun _ k => XS.istore X1.here hx rfl (hb hby own_d_method_4_code_7) rfl (l' := #[.val (.ref a), .val (.int pk), .val (.int pd), .val (.int pu), .val (.int (own_at xs z (pk + pd)))]) rfl k) ?_
  show own_Gl _ _ _ _ _ _ _ (T1.setTop (mkF m 9 #[.val (.ref a), .val (.int pk), .val (.int pd), .val (.int pu), .val (.int (own_at xs z (pk + pd)))] []))
  refine own_st (fun _ k => XS.iload X1.here hx rfl (hb hby own_d_method_4_code_9) rfl k) ?_
  show own_Gl _ _ _ _ _ _ _ (T1.setTop (mkF m 11 #[.val (.ref a), .val (.int pk), .val (.int pd), .val (.int pu), .val (.int (own_at xs z (pk + pd)))] [(.int (own_at xs z (pk + pd)))]))
  refine own_st (fun _ k => XS.iloadN X1.here hx rfl (hb hby own_d_method_4_code_11) rfl k) ?_
  show own_Gl _ _ _ _ _ _ _ (T1.setTop (mkF m 12 #[.val (.ref a), .val (.int pk), .val (.int pd), .val (.int pu), .val (.int (own_at xs z (pk + pd)))] [(.int pu), (.int (own_at xs z (pk + pd)))]))
  obtain ⟨_, _, ⟨T2, L2, k2, n2⟩, -, X2, ⟨Lc2, hQ2, l2, y2, z2⟩, st2⟩ := Jvm.LawKit.callS X1 hx (y := (⟨"org/benli/core/BernsteinSignChangesPinLaw", "skip", "(IZ)Z"⟩ : MethodName)) hown (mvT hZ (hw _ (List.mem_of_getElem? (i := 28) rfl))) (mvT hZ (hw _ (List.mem_of_getElem? (i := 29) rfl))) (mvT hZ (hw _ (List.mem_of_getElem? (i := 8) rfl))) (mvT hZ (hw _ (List.mem_of_getElem? (i := 30) rfl))) (by decide) (backOf (W := 0) (own_r_skip l Z a0 hw [] (own_at xs z (pk + pd)) pu h0 n0 Z0 ) hZ (hw _ (List.mem_of_getElem? (i := 30) rfl)) (hw _ (List.mem_of_getElem? (i := 8) rfl)) (by decide) (by decide)) (g := (mkF m 12 #[.val (.ref a), .val (.int pk), .val (.int pd), .val (.int pu), .val (.int (own_at xs z (pk + pd)))] [(.int pu), (.int (own_at xs z (pk + pd)))])) rfl (by rw [hml]; rfl) (argsL := [(.int (own_at xs z (pk + pd))), (.int pu)]) (rest := []) (lenOf own_pd945657434 rfl) rfl (by show 2 * 0 + _ ≤ _; exact Nat.le_of_eq rfl) (hb hby own_d_method_4_code_12) (fun _ _ => ⟨rfl, e1, (by decide : 0 + 0 ≤ ({ frames := 1, cells := 0, slots := 0, locals := 13 } : Room).cells), (by decide : 0 + 0 ≤ ({ frames := 1, cells := 0, slots := 0, locals := 13 } : Room).slots)⟩)
  dsimp only [Pt.U, Pt.locs, Pt.cells, Pt.slots] at X2 l2 y2 z2 st2 hQ2
  subst l2 y2 z2
  obtain ⟨hh2, eh02⟩ : ∃ z, T2.heap = z := ⟨_, rfl⟩
  rw [eh02] at hQ2
  obtain ⟨rfl, Nq2, eh2⟩ := hQ2
  have N2 := Fr.app N1 Nq2
  refine own_st st2 ?_
  have e2 : T2.heap = h0 := eh02.trans eh2
  show own_Gl _ _ _ _ _ _ _ (T2.setTop (mkF m 15 #[.val (.ref a), .val (.int pk), .val (.int pd), .val (.int pu), .val (.int (own_at xs z (pk + pd)))] [(.int (own_skip (own_at xs z (pk + pd)) pu))]))
  by_cases hc15 : (own_skip (own_at xs z (pk + pd)) pu) = (0 : Int32)
  · refine own_st (fun _ k => XS.ifNo X2.here hx rfl (hb hby own_d_method_4_code_15) rfl ((if0 _ _).trans (teq hc15).2) k) ?_
    show own_Gl _ _ _ _ _ _ _ (T2.setTop (mkF m 18 #[.val (.ref a), .val (.int pk), .val (.int pd), .val (.int pu), .val (.int (own_at xs z (pk + pd)))] []))
    refine own_st (fun _ k => XS.iload X2.here hx rfl (hb hby own_d_method_4_code_18) rfl k) ?_
    show own_Gl _ _ _ _ _ _ _ (T2.setTop (mkF m 20 #[.val (.ref a), .val (.int pk), .val (.int pd), .val (.int pu), .val (.int (own_at xs z (pk + pd)))] [(.int (own_at xs z (pk + pd)))]))
    exact own_retI X2 hx hlk hret (hb hby own_d_method_4_code_20) e2 ⟨by rw [own_near, if_pos hc15] <;> rfl, N2, rfl⟩ (by decide) (by decide)
  · refine own_st (fun _ k => XS.ifYes X2.here hx rfl (pc0 := 15) (pc' := 21) rfl (hb hby own_d_method_4_code_15) rfl ((if0 _ _).trans (feq hc15).2) (by decide) (by decide) k) ?_
    show own_Gl _ _ _ _ _ _ _ (T2.setTop (mkF m 21 #[.val (.ref a), .val (.int pk), .val (.int pd), .val (.int pu), .val (.int (own_at xs z (pk + pd)))] []))
    refine own_st (fun _ k => XS.aloadN X2.here hx rfl (hb hby own_d_method_4_code_21) rfl rfl k) ?_
    show own_Gl _ _ _ _ _ _ _ (T2.setTop (mkF m 22 #[.val (.ref a), .val (.int pk), .val (.int pd), .val (.int pu), .val (.int (own_at xs z (pk + pd)))] [(.ref a)]))
    refine own_st (fun _ k => XS.iloadN X2.here hx rfl (hb hby own_d_method_4_code_22) rfl k) ?_
    show own_Gl _ _ _ _ _ _ _ (T2.setTop (mkF m 23 #[.val (.ref a), .val (.int pk), .val (.int pd), .val (.int pu), .val (.int (own_at xs z (pk + pd)))] [(.int pk), (.ref a)]))
    refine own_st (fun _ k => XS.iconst X2.here hx rfl (hb hby own_d_method_4_code_23) k) ?_
    show own_Gl _ _ _ _ _ _ _ (T2.setTop (mkF m 24 #[.val (.ref a), .val (.int pk), .val (.int pd), .val (.int pu), .val (.int (own_at xs z (pk + pd)))] [(.int (2 : Int32)), (.int pk), (.ref a)]))
    refine own_st (fun _ k => XS.iloadN X2.here hx rfl (hb hby own_d_method_4_code_24) rfl k) ?_
    show own_Gl _ _ _ _ _ _ _ (T2.setTop (mkF m 25 #[.val (.ref a), .val (.int pk), .val (.int pd), .val (.int pu), .val (.int (own_at xs z (pk + pd)))] [(.int pd), (.int (2 : Int32)), (.int pk), (.ref a)]))
    refine own_st (fun _ k => XS.imul X2.here hx rfl (hb hby own_d_method_4_code_25) rfl k) ?_
    show own_Gl _ _ _ _ _ _ _ (T2.setTop (mkF m 26 #[.val (.ref a), .val (.int pk), .val (.int pd), .val (.int pu), .val (.int (own_at xs z (pk + pd)))] [(.int ((2 : Int32) * pd)), (.int pk), (.ref a)]))
    refine own_st (fun _ k => XS.iadd X2.here hx rfl (hb hby own_d_method_4_code_26) rfl k) ?_
    show own_Gl _ _ _ _ _ _ _ (T2.setTop (mkF m 27 #[.val (.ref a), .val (.int pk), .val (.int pd), .val (.int pu), .val (.int (own_at xs z (pk + pd)))] [(.int (pk + ((2 : Int32) * pd))), (.ref a)]))
    obtain ⟨_, _, ⟨T3, L3, k3, n3⟩, -, X3, ⟨Lc3, hQ3, l3, y3, z3⟩, st3⟩ := Jvm.LawKit.callS X2 hx (y := (⟨"org/benli/core/BernsteinSignChangesPinLaw", "at", "([II)I"⟩ : MethodName)) hown (mvT hZ (hw _ (List.mem_of_getElem? (i := 10) rfl))) (mvT hZ (hw _ (List.mem_of_getElem? (i := 11) rfl))) (mvT hZ (hw _ (List.mem_of_getElem? (i := 8) rfl))) (mvT hZ (hw _ (List.mem_of_getElem? (i := 12) rfl))) (by decide) (backOf (W := 0) (own_r_at l Z a0 hw [] a k z xs (pk + ((2 : Int32) * pd)) h0 n0 Z0 V_a) hZ (hw _ (List.mem_of_getElem? (i := 12) rfl)) (hw _ (List.mem_of_getElem? (i := 8) rfl)) (by decide) (by decide)) (g := (mkF m 27 #[.val (.ref a), .val (.int pk), .val (.int pd), .val (.int pu), .val (.int (own_at xs z (pk + pd)))] [(.int (pk + ((2 : Int32) * pd))), (.ref a)])) rfl (by rw [hml]; rfl) (argsL := [(.ref a), (.int (pk + ((2 : Int32) * pd)))]) (rest := []) (lenOf own_pd144447691 rfl) rfl (by show 2 * 0 + _ ≤ _; exact Nat.le_of_eq rfl) (hb hby own_d_method_4_code_27) (fun _ _ => ⟨rfl, e2, (by decide : 0 + 0 ≤ ({ frames := 1, cells := 0, slots := 0, locals := 13 } : Room).cells), (by decide : 0 + 0 ≤ ({ frames := 1, cells := 0, slots := 0, locals := 13 } : Room).slots)⟩)
    dsimp only [Pt.U, Pt.locs, Pt.cells, Pt.slots] at X3 l3 y3 z3 st3 hQ3
    subst l3 y3 z3
    obtain ⟨hh3, eh03⟩ : ∃ z, T3.heap = z := ⟨_, rfl⟩
    rw [eh03] at hQ3
    obtain ⟨rfl, Nq3, eh3⟩ := hQ3
    have N3 := Fr.app N2 Nq3
    refine own_st st3 ?_
    have e3 : T3.heap = h0 := eh03.trans eh3
    show own_Gl _ _ _ _ _ _ _ (T3.setTop (mkF m 30 #[.val (.ref a), .val (.int pk), .val (.int pd), .val (.int pu), .val (.int (own_at xs z (pk + pd)))] [(.int (own_at xs z (pk + ((2 : Int32) * pd))))]))
    refine own_st (fun _ k => XS.istore X3.here hx rfl (hb hby own_d_method_4_code_30) rfl (l' := #[.val (.ref a), .val (.int pk), .val (.int pd), .val (.int pu), .val (.int (own_at xs z (pk + ((2 : Int32) * pd))))]) rfl k) ?_
    show own_Gl _ _ _ _ _ _ _ (T3.setTop (mkF m 32 #[.val (.ref a), .val (.int pk), .val (.int pd), .val (.int pu), .val (.int (own_at xs z (pk + ((2 : Int32) * pd))))] []))
    refine own_st (fun _ k => XS.iload X3.here hx rfl (hb hby own_d_method_4_code_32) rfl k) ?_
    show own_Gl _ _ _ _ _ _ _ (T3.setTop (mkF m 34 #[.val (.ref a), .val (.int pk), .val (.int pd), .val (.int pu), .val (.int (own_at xs z (pk + ((2 : Int32) * pd))))] [(.int (own_at xs z (pk + ((2 : Int32) * pd))))]))
    refine own_st (fun _ k => XS.iloadN X3.here hx rfl (hb hby own_d_method_4_code_34) rfl k) ?_
    show own_Gl _ _ _ _ _ _ _ (T3.setTop (mkF m 35 #[.val (.ref a), .val (.int pk), .val (.int pd), .val (.int pu), .val (.int (own_at xs z (pk + ((2 : Int32) * pd))))] [(.int pu), (.int (own_at xs z (pk + ((2 : Int32) * pd))))]))
    obtain ⟨_, _, ⟨T4, L4, k4, n4⟩, -, X4, ⟨Lc4, hQ4, l4, y4, z4⟩, st4⟩ := Jvm.LawKit.callS X3 hx (y := (⟨"org/benli/core/BernsteinSignChangesPinLaw", "skip", "(IZ)Z"⟩ : MethodName)) hown (mvT hZ (hw _ (List.mem_of_getElem? (i := 28) rfl))) (mvT hZ (hw _ (List.mem_of_getElem? (i := 29) rfl))) (mvT hZ (hw _ (List.mem_of_getElem? (i := 8) rfl))) (mvT hZ (hw _ (List.mem_of_getElem? (i := 30) rfl))) (by decide) (backOf (W := 0) (own_r_skip l Z a0 hw [] (own_at xs z (pk + ((2 : Int32) * pd))) pu h0 n0 Z0 ) hZ (hw _ (List.mem_of_getElem? (i := 30) rfl)) (hw _ (List.mem_of_getElem? (i := 8) rfl)) (by decide) (by decide)) (g := (mkF m 35 #[.val (.ref a), .val (.int pk), .val (.int pd), .val (.int pu), .val (.int (own_at xs z (pk + ((2 : Int32) * pd))))] [(.int pu), (.int (own_at xs z (pk + ((2 : Int32) * pd))))])) rfl (by rw [hml]; rfl) (argsL := [(.int (own_at xs z (pk + ((2 : Int32) * pd)))), (.int pu)]) (rest := []) (lenOf own_pd945657434 rfl) rfl (by show 2 * 0 + _ ≤ _; exact Nat.le_of_eq rfl) (hb hby own_d_method_4_code_35) (fun _ _ => ⟨rfl, e3, (by decide : 0 + 0 ≤ ({ frames := 1, cells := 0, slots := 0, locals := 13 } : Room).cells), (by decide : 0 + 0 ≤ ({ frames := 1, cells := 0, slots := 0, locals := 13 } : Room).slots)⟩)
    dsimp only [Pt.U, Pt.locs, Pt.cells, Pt.slots] at X4 l4 y4 z4 st4 hQ4
    subst l4 y4 z4
    obtain ⟨hh4, eh04⟩ : ∃ z, T4.heap = z := ⟨_, rfl⟩
    rw [eh04] at hQ4
    obtain ⟨rfl, Nq4, eh4⟩ := hQ4
    have N4 := Fr.app N3 Nq4
    refine own_st st4 ?_
    have e4 : T4.heap = h0 := eh04.trans eh4
    show own_Gl _ _ _ _ _ _ _ (T4.setTop (mkF m 38 #[.val (.ref a), .val (.int pk), .val (.int pd), .val (.int pu), .val (.int (own_at xs z (pk + ((2 : Int32) * pd))))] [(.int (own_skip (own_at xs z (pk + ((2 : Int32) * pd))) pu))]))
    by_cases hc38 : (own_skip (own_at xs z (pk + ((2 : Int32) * pd))) pu) = (0 : Int32)
    · refine own_st (fun _ k => XS.ifNo X4.here hx rfl (hb hby own_d_method_4_code_38) rfl ((if0 _ _).trans (teq hc38).2) k) ?_
      show own_Gl _ _ _ _ _ _ _ (T4.setTop (mkF m 41 #[.val (.ref a), .val (.int pk), .val (.int pd), .val (.int pu), .val (.int (own_at xs z (pk + ((2 : Int32) * pd))))] []))
      refine own_st (fun _ k => XS.iload X4.here hx rfl (hb hby own_d_method_4_code_41) rfl k) ?_
      show own_Gl _ _ _ _ _ _ _ (T4.setTop (mkF m 43 #[.val (.ref a), .val (.int pk), .val (.int pd), .val (.int pu), .val (.int (own_at xs z (pk + ((2 : Int32) * pd))))] [(.int (own_at xs z (pk + ((2 : Int32) * pd))))]))
      exact own_retI X4 hx hlk hret (hb hby own_d_method_4_code_43) e4 ⟨by rw [own_near, if_neg hc15, if_pos hc38] <;> rfl, N4, rfl⟩ (by decide) (by decide)
    · refine own_st (fun _ k => XS.ifYes X4.here hx rfl (pc0 := 38) (pc' := 44) rfl (hb hby own_d_method_4_code_38) rfl ((if0 _ _).trans (feq hc38).2) (by decide) (by decide) k) ?_
      show own_Gl _ _ _ _ _ _ _ (T4.setTop (mkF m 44 #[.val (.ref a), .val (.int pk), .val (.int pd), .val (.int pu), .val (.int (own_at xs z (pk + ((2 : Int32) * pd))))] []))
      refine own_st (fun _ k => XS.aloadN X4.here hx rfl (hb hby own_d_method_4_code_44) rfl rfl k) ?_
      show own_Gl _ _ _ _ _ _ _ (T4.setTop (mkF m 45 #[.val (.ref a), .val (.int pk), .val (.int pd), .val (.int pu), .val (.int (own_at xs z (pk + ((2 : Int32) * pd))))] [(.ref a)]))
      refine own_st (fun _ k => XS.iloadN X4.here hx rfl (hb hby own_d_method_4_code_45) rfl k) ?_
      show own_Gl _ _ _ _ _ _ _ (T4.setTop (mkF m 46 #[.val (.ref a), .val (.int pk), .val (.int pd), .val (.int pu), .val (.int (own_at xs z (pk + ((2 : Int32) * pd))))] [(.int pk), (.ref a)]))
      refine own_st (fun _ k => XS.iconst X4.here hx rfl (hb hby own_d_method_4_code_46) k) ?_
      show own_Gl _ _ _ _ _ _ _ (T4.setTop (mkF m 47 #[.val (.ref a), .val (.int pk), .val (.int pd), .val (.int pu), .val (.int (own_at xs z (pk + ((2 : Int32) * pd))))] [(.int (3 : Int32)), (.int pk), (.ref a)]))
      refine own_st (fun _ k => XS.iloadN X4.here hx rfl (hb hby own_d_method_4_code_47) rfl k) ?_
      show own_Gl _ _ _ _ _ _ _ (T4.setTop (mkF m 48 #[.val (.ref a), .val (.int pk), .val (.int pd), .val (.int pu), .val (.int (own_at xs z (pk + ((2 : Int32) * pd))))] [(.int pd), (.int (3 : Int32)), (.int pk), (.ref a)]))
      refine own_st (fun _ k => XS.imul X4.here hx rfl (hb hby own_d_method_4_code_48) rfl k) ?_
      show own_Gl _ _ _ _ _ _ _ (T4.setTop (mkF m 49 #[.val (.ref a), .val (.int pk), .val (.int pd), .val (.int pu), .val (.int (own_at xs z (pk + ((2 : Int32) * pd))))] [(.int ((3 : Int32) * pd)), (.int pk), (.ref a)]))
      refine own_st (fun _ k => XS.iadd X4.here hx rfl (hb hby own_d_method_4_code_49) rfl k) ?_
      show own_Gl _ _ _ _ _ _ _ (T4.setTop (mkF m 50 #[.val (.ref a), .val (.int pk), .val (.int pd), .val (.int pu), .val (.int (own_at xs z (pk + ((2 : Int32) * pd))))] [(.int (pk + ((3 : Int32) * pd))), (.ref a)]))
      obtain ⟨_, _, ⟨T5, L5, k5, n5⟩, -, X5, ⟨Lc5, hQ5, l5, y5, z5⟩, st5⟩ := Jvm.LawKit.callS X4 hx (y := (⟨"org/benli/core/BernsteinSignChangesPinLaw", "at", "([II)I"⟩ : MethodName)) hown (mvT hZ (hw _ (List.mem_of_getElem? (i := 10) rfl))) (mvT hZ (hw _ (List.mem_of_getElem? (i := 11) rfl))) (mvT hZ (hw _ (List.mem_of_getElem? (i := 8) rfl))) (mvT hZ (hw _ (List.mem_of_getElem? (i := 12) rfl))) (by decide) (backOf (W := 0) (own_r_at l Z a0 hw [] a k z xs (pk + ((3 : Int32) * pd)) h0 n0 Z0 V_a) hZ (hw _ (List.mem_of_getElem? (i := 12) rfl)) (hw _ (List.mem_of_getElem? (i := 8) rfl)) (by decide) (by decide)) (g := (mkF m 50 #[.val (.ref a), .val (.int pk), .val (.int pd), .val (.int pu), .val (.int (own_at xs z (pk + ((2 : Int32) * pd))))] [(.int (pk + ((3 : Int32) * pd))), (.ref a)])) rfl (by rw [hml]; rfl) (argsL := [(.ref a), (.int (pk + ((3 : Int32) * pd)))]) (rest := []) (lenOf own_pd144447691 rfl) rfl (by show 2 * 0 + _ ≤ _; exact Nat.le_of_eq rfl) (hb hby own_d_method_4_code_50) (fun _ _ => ⟨rfl, e4, (by decide : 0 + 0 ≤ ({ frames := 1, cells := 0, slots := 0, locals := 13 } : Room).cells), (by decide : 0 + 0 ≤ ({ frames := 1, cells := 0, slots := 0, locals := 13 } : Room).slots)⟩)
      dsimp only [Pt.U, Pt.locs, Pt.cells, Pt.slots] at X5 l5 y5 z5 st5 hQ5
      subst l5 y5 z5
      obtain ⟨hh5, eh05⟩ : ∃ z, T5.heap = z := ⟨_, rfl⟩
      rw [eh05] at hQ5
      obtain ⟨rfl, Nq5, eh5⟩ := hQ5
      have N5 := Fr.app N4 Nq5
      refine own_st st5 ?_
      have e5 : T5.heap = h0 := eh05.trans eh5
      show own_Gl _ _ _ _ _ _ _ (T5.setTop (mkF m 53 #[.val (.ref a), .val (.int pk), .val (.int pd), .val (.int pu), .val (.int (own_at xs z (pk + ((2 : Int32) * pd))))] [(.int (own_at xs z (pk + ((3 : Int32) * pd))))]))
      refine own_st (fun _ k => XS.istore X5.here hx rfl (hb hby own_d_method_4_code_53) rfl (l' := #[.val (.ref a), .val (.int pk), .val (.int pd), .val (.int pu), .val (.int (own_at xs z (pk + ((3 : Int32) * pd))))]) rfl k) ?_
      show own_Gl _ _ _ _ _ _ _ (T5.setTop (mkF m 55 #[.val (.ref a), .val (.int pk), .val (.int pd), .val (.int pu), .val (.int (own_at xs z (pk + ((3 : Int32) * pd))))] []))
      refine own_st (fun _ k => XS.iload X5.here hx rfl (hb hby own_d_method_4_code_55) rfl k) ?_
      show own_Gl _ _ _ _ _ _ _ (T5.setTop (mkF m 57 #[.val (.ref a), .val (.int pk), .val (.int pd), .val (.int pu), .val (.int (own_at xs z (pk + ((3 : Int32) * pd))))] [(.int (own_at xs z (pk + ((3 : Int32) * pd))))]))
      refine own_st (fun _ k => XS.iloadN X5.here hx rfl (hb hby own_d_method_4_code_57) rfl k) ?_
      show own_Gl _ _ _ _ _ _ _ (T5.setTop (mkF m 58 #[.val (.ref a), .val (.int pk), .val (.int pd), .val (.int pu), .val (.int (own_at xs z (pk + ((3 : Int32) * pd))))] [(.int pu), (.int (own_at xs z (pk + ((3 : Int32) * pd))))]))
      obtain ⟨_, _, ⟨T6, L6, k6, n6⟩, -, X6, ⟨Lc6, hQ6, l6, y6, z6⟩, st6⟩ := Jvm.LawKit.callS X5 hx (y := (⟨"org/benli/core/BernsteinSignChangesPinLaw", "skip", "(IZ)Z"⟩ : MethodName)) hown (mvT hZ (hw _ (List.mem_of_getElem? (i := 28) rfl))) (mvT hZ (hw _ (List.mem_of_getElem? (i := 29) rfl))) (mvT hZ (hw _ (List.mem_of_getElem? (i := 8) rfl))) (mvT hZ (hw _ (List.mem_of_getElem? (i := 30) rfl))) (by decide) (backOf (W := 0) (own_r_skip l Z a0 hw [] (own_at xs z (pk + ((3 : Int32) * pd))) pu h0 n0 Z0 ) hZ (hw _ (List.mem_of_getElem? (i := 30) rfl)) (hw _ (List.mem_of_getElem? (i := 8) rfl)) (by decide) (by decide)) (g := (mkF m 58 #[.val (.ref a), .val (.int pk), .val (.int pd), .val (.int pu), .val (.int (own_at xs z (pk + ((3 : Int32) * pd))))] [(.int pu), (.int (own_at xs z (pk + ((3 : Int32) * pd))))])) rfl (by rw [hml]; rfl) (argsL := [(.int (own_at xs z (pk + ((3 : Int32) * pd)))), (.int pu)]) (rest := []) (lenOf own_pd945657434 rfl) rfl (by show 2 * 0 + _ ≤ _; exact Nat.le_of_eq rfl) (hb hby own_d_method_4_code_58) (fun _ _ => ⟨rfl, e5, (by decide : 0 + 0 ≤ ({ frames := 1, cells := 0, slots := 0, locals := 13 } : Room).cells), (by decide : 0 + 0 ≤ ({ frames := 1, cells := 0, slots := 0, locals := 13 } : Room).slots)⟩)
      dsimp only [Pt.U, Pt.locs, Pt.cells, Pt.slots] at X6 l6 y6 z6 st6 hQ6
      subst l6 y6 z6
      obtain ⟨hh6, eh06⟩ : ∃ z, T6.heap = z := ⟨_, rfl⟩
      rw [eh06] at hQ6
      obtain ⟨rfl, Nq6, eh6⟩ := hQ6
      have N6 := Fr.app N5 Nq6
      refine own_st st6 ?_
      have e6 : T6.heap = h0 := eh06.trans eh6
      show own_Gl _ _ _ _ _ _ _ (T6.setTop (mkF m 61 #[.val (.ref a), .val (.int pk), .val (.int pd), .val (.int pu), .val (.int (own_at xs z (pk + ((3 : Int32) * pd))))] [(.int (own_skip (own_at xs z (pk + ((3 : Int32) * pd))) pu))]))
      by_cases hc61 : (own_skip (own_at xs z (pk + ((3 : Int32) * pd))) pu) = (0 : Int32)
      · refine own_st (fun _ k => XS.ifNo X6.here hx rfl (hb hby own_d_method_4_code_61) rfl ((if0 _ _).trans (teq hc61).2) k) ?_
        show own_Gl _ _ _ _ _ _ _ (T6.setTop (mkF m 64 #[.val (.ref a), .val (.int pk), .val (.int pd), .val (.int pu), .val (.int (own_at xs z (pk + ((3 : Int32) * pd))))] []))
        refine own_st (fun _ k => XS.iload X6.here hx rfl (hb hby own_d_method_4_code_64) rfl k) ?_
        show own_Gl _ _ _ _ _ _ _ (T6.setTop (mkF m 66 #[.val (.ref a), .val (.int pk), .val (.int pd), .val (.int pu), .val (.int (own_at xs z (pk + ((3 : Int32) * pd))))] [(.int (own_at xs z (pk + ((3 : Int32) * pd))))]))
        exact own_retI X6 hx hlk hret (hb hby own_d_method_4_code_66) e6 ⟨by rw [own_near, if_neg hc15, if_neg hc38, if_pos hc61] <;> rfl, N6, rfl⟩ (by decide) (by decide)
      · refine own_st (fun _ k => XS.ifYes X6.here hx rfl (pc0 := 61) (pc' := 67) rfl (hb hby own_d_method_4_code_61) rfl ((if0 _ _).trans (feq hc61).2) (by decide) (by decide) k) ?_
        show own_Gl _ _ _ _ _ _ _ (T6.setTop (mkF m 67 #[.val (.ref a), .val (.int pk), .val (.int pd), .val (.int pu), .val (.int (own_at xs z (pk + ((3 : Int32) * pd))))] []))
        refine own_st (fun _ k => XS.aloadN X6.here hx rfl (hb hby own_d_method_4_code_67) rfl rfl k) ?_
        show own_Gl _ _ _ _ _ _ _ (T6.setTop (mkF m 68 #[.val (.ref a), .val (.int pk), .val (.int pd), .val (.int pu), .val (.int (own_at xs z (pk + ((3 : Int32) * pd))))] [(.ref a)]))
        refine own_st (fun _ k => XS.iloadN X6.here hx rfl (hb hby own_d_method_4_code_68) rfl k) ?_
        show own_Gl _ _ _ _ _ _ _ (T6.setTop (mkF m 69 #[.val (.ref a), .val (.int pk), .val (.int pd), .val (.int pu), .val (.int (own_at xs z (pk + ((3 : Int32) * pd))))] [(.int pk), (.ref a)]))
        refine own_st (fun _ k => XS.iconst X6.here hx rfl (hb hby own_d_method_4_code_69) k) ?_
        show own_Gl _ _ _ _ _ _ _ (T6.setTop (mkF m 70 #[.val (.ref a), .val (.int pk), .val (.int pd), .val (.int pu), .val (.int (own_at xs z (pk + ((3 : Int32) * pd))))] [(.int (4 : Int32)), (.int pk), (.ref a)]))
        refine own_st (fun _ k => XS.iloadN X6.here hx rfl (hb hby own_d_method_4_code_70) rfl k) ?_
        show own_Gl _ _ _ _ _ _ _ (T6.setTop (mkF m 71 #[.val (.ref a), .val (.int pk), .val (.int pd), .val (.int pu), .val (.int (own_at xs z (pk + ((3 : Int32) * pd))))] [(.int pd), (.int (4 : Int32)), (.int pk), (.ref a)]))
        refine own_st (fun _ k => XS.imul X6.here hx rfl (hb hby own_d_method_4_code_71) rfl k) ?_
        show own_Gl _ _ _ _ _ _ _ (T6.setTop (mkF m 72 #[.val (.ref a), .val (.int pk), .val (.int pd), .val (.int pu), .val (.int (own_at xs z (pk + ((3 : Int32) * pd))))] [(.int ((4 : Int32) * pd)), (.int pk), (.ref a)]))
        refine own_st (fun _ k => XS.iadd X6.here hx rfl (hb hby own_d_method_4_code_72) rfl k) ?_
        show own_Gl _ _ _ _ _ _ _ (T6.setTop (mkF m 73 #[.val (.ref a), .val (.int pk), .val (.int pd), .val (.int pu), .val (.int (own_at xs z (pk + ((3 : Int32) * pd))))] [(.int (pk + ((4 : Int32) * pd))), (.ref a)]))
        obtain ⟨_, _, ⟨T7, L7, k7, n7⟩, -, X7, ⟨Lc7, hQ7, l7, y7, z7⟩, st7⟩ := Jvm.LawKit.callS X6 hx (y := (⟨"org/benli/core/BernsteinSignChangesPinLaw", "at", "([II)I"⟩ : MethodName)) hown (mvT hZ (hw _ (List.mem_of_getElem? (i := 10) rfl))) (mvT hZ (hw _ (List.mem_of_getElem? (i := 11) rfl))) (mvT hZ (hw _ (List.mem_of_getElem? (i := 8) rfl))) (mvT hZ (hw _ (List.mem_of_getElem? (i := 12) rfl))) (by decide) (backOf (W := 0) (own_r_at l Z a0 hw [] a k z xs (pk + ((4 : Int32) * pd)) h0 n0 Z0 V_a) hZ (hw _ (List.mem_of_getElem? (i := 12) rfl)) (hw _ (List.mem_of_getElem? (i := 8) rfl)) (by decide) (by decide)) (g := (mkF m 73 #[.val (.ref a), .val (.int pk), .val (.int pd), .val (.int pu), .val (.int (own_at xs z (pk + ((3 : Int32) * pd))))] [(.int (pk + ((4 : Int32) * pd))), (.ref a)])) rfl (by rw [hml]; rfl) (argsL := [(.ref a), (.int (pk + ((4 : Int32) * pd)))]) (rest := []) (lenOf own_pd144447691 rfl) rfl (by show 2 * 0 + _ ≤ _; exact Nat.le_of_eq rfl) (hb hby own_d_method_4_code_73) (fun _ _ => ⟨rfl, e6, (by decide : 0 + 0 ≤ ({ frames := 1, cells := 0, slots := 0, locals := 13 } : Room).cells), (by decide : 0 + 0 ≤ ({ frames := 1, cells := 0, slots := 0, locals := 13 } : Room).slots)⟩)
        dsimp only [Pt.U, Pt.locs, Pt.cells, Pt.slots] at X7 l7 y7 z7 st7 hQ7
        subst l7 y7 z7
        obtain ⟨hh7, eh07⟩ : ∃ z, T7.heap = z := ⟨_, rfl⟩
        rw [eh07] at hQ7
        obtain ⟨rfl, Nq7, eh7⟩ := hQ7
        have N7 := Fr.app N6 Nq7
        refine own_st st7 ?_
        have e7 : T7.heap = h0 := eh07.trans eh7
        show own_Gl _ _ _ _ _ _ _ (T7.setTop (mkF m 76 #[.val (.ref a), .val (.int pk), .val (.int pd), .val (.int pu), .val (.int (own_at xs z (pk + ((3 : Int32) * pd))))] [(.int (own_at xs z (pk + ((4 : Int32) * pd))))]))
        refine own_st (fun _ k => XS.istore X7.here hx rfl (hb hby own_d_method_4_code_76) rfl (l' := #[.val (.ref a), .val (.int pk), .val (.int pd), .val (.int pu), .val (.int (own_at xs z (pk + ((4 : Int32) * pd))))]) rfl k) ?_
        show own_Gl _ _ _ _ _ _ _ (T7.setTop (mkF m 78 #[.val (.ref a), .val (.int pk), .val (.int pd), .val (.int pu), .val (.int (own_at xs z (pk + ((4 : Int32) * pd))))] []))
        refine own_st (fun _ k => XS.iload X7.here hx rfl (hb hby own_d_method_4_code_78) rfl k) ?_
        show own_Gl _ _ _ _ _ _ _ (T7.setTop (mkF m 80 #[.val (.ref a), .val (.int pk), .val (.int pd), .val (.int pu), .val (.int (own_at xs z (pk + ((4 : Int32) * pd))))] [(.int (own_at xs z (pk + ((4 : Int32) * pd))))]))
        refine own_st (fun _ k => XS.iloadN X7.here hx rfl (hb hby own_d_method_4_code_80) rfl k) ?_
        show own_Gl _ _ _ _ _ _ _ (T7.setTop (mkF m 81 #[.val (.ref a), .val (.int pk), .val (.int pd), .val (.int pu), .val (.int (own_at xs z (pk + ((4 : Int32) * pd))))] [(.int pu), (.int (own_at xs z (pk + ((4 : Int32) * pd))))]))
        obtain ⟨_, _, ⟨T8, L8, k8, n8⟩, -, X8, ⟨Lc8, hQ8, l8, y8, z8⟩, st8⟩ := Jvm.LawKit.callS X7 hx (y := (⟨"org/benli/core/BernsteinSignChangesPinLaw", "skip", "(IZ)Z"⟩ : MethodName)) hown (mvT hZ (hw _ (List.mem_of_getElem? (i := 28) rfl))) (mvT hZ (hw _ (List.mem_of_getElem? (i := 29) rfl))) (mvT hZ (hw _ (List.mem_of_getElem? (i := 8) rfl))) (mvT hZ (hw _ (List.mem_of_getElem? (i := 30) rfl))) (by decide) (backOf (W := 0) (own_r_skip l Z a0 hw [] (own_at xs z (pk + ((4 : Int32) * pd))) pu h0 n0 Z0 ) hZ (hw _ (List.mem_of_getElem? (i := 30) rfl)) (hw _ (List.mem_of_getElem? (i := 8) rfl)) (by decide) (by decide)) (g := (mkF m 81 #[.val (.ref a), .val (.int pk), .val (.int pd), .val (.int pu), .val (.int (own_at xs z (pk + ((4 : Int32) * pd))))] [(.int pu), (.int (own_at xs z (pk + ((4 : Int32) * pd))))])) rfl (by rw [hml]; rfl) (argsL := [(.int (own_at xs z (pk + ((4 : Int32) * pd)))), (.int pu)]) (rest := []) (lenOf own_pd945657434 rfl) rfl (by show 2 * 0 + _ ≤ _; exact Nat.le_of_eq rfl) (hb hby own_d_method_4_code_81) (fun _ _ => ⟨rfl, e7, (by decide : 0 + 0 ≤ ({ frames := 1, cells := 0, slots := 0, locals := 13 } : Room).cells), (by decide : 0 + 0 ≤ ({ frames := 1, cells := 0, slots := 0, locals := 13 } : Room).slots)⟩)
        dsimp only [Pt.U, Pt.locs, Pt.cells, Pt.slots] at X8 l8 y8 z8 st8 hQ8
        subst l8 y8 z8
        obtain ⟨hh8, eh08⟩ : ∃ z, T8.heap = z := ⟨_, rfl⟩
        rw [eh08] at hQ8
        obtain ⟨rfl, Nq8, eh8⟩ := hQ8
        have N8 := Fr.app N7 Nq8
        refine own_st st8 ?_
        have e8 : T8.heap = h0 := eh08.trans eh8
        show own_Gl _ _ _ _ _ _ _ (T8.setTop (mkF m 84 #[.val (.ref a), .val (.int pk), .val (.int pd), .val (.int pu), .val (.int (own_at xs z (pk + ((4 : Int32) * pd))))] [(.int (own_skip (own_at xs z (pk + ((4 : Int32) * pd))) pu))]))
        by_cases hc84 : (own_skip (own_at xs z (pk + ((4 : Int32) * pd))) pu) = (0 : Int32)
        · refine own_st (fun _ k => XS.ifNo X8.here hx rfl (hb hby own_d_method_4_code_84) rfl ((if0 _ _).trans (teq hc84).2) k) ?_
          show own_Gl _ _ _ _ _ _ _ (T8.setTop (mkF m 87 #[.val (.ref a), .val (.int pk), .val (.int pd), .val (.int pu), .val (.int (own_at xs z (pk + ((4 : Int32) * pd))))] []))
          refine own_st (fun _ k => XS.iload X8.here hx rfl (hb hby own_d_method_4_code_87) rfl k) ?_
          show own_Gl _ _ _ _ _ _ _ (T8.setTop (mkF m 89 #[.val (.ref a), .val (.int pk), .val (.int pd), .val (.int pu), .val (.int (own_at xs z (pk + ((4 : Int32) * pd))))] [(.int (own_at xs z (pk + ((4 : Int32) * pd))))]))
          exact own_retI X8 hx hlk hret (hb hby own_d_method_4_code_89) e8 ⟨by rw [own_near, if_neg hc15, if_neg hc38, if_neg hc61, if_pos hc84] <;> rfl, N8, rfl⟩ (by decide) (by decide)
        · refine own_st (fun _ k => XS.ifYes X8.here hx rfl (pc0 := 84) (pc' := 90) rfl (hb hby own_d_method_4_code_84) rfl ((if0 _ _).trans (feq hc84).2) (by decide) (by decide) k) ?_
          show own_Gl _ _ _ _ _ _ _ (T8.setTop (mkF m 90 #[.val (.ref a), .val (.int pk), .val (.int pd), .val (.int pu), .val (.int (own_at xs z (pk + ((4 : Int32) * pd))))] []))
          refine own_st (fun _ k => XS.iconst X8.here hx rfl (hb hby own_d_method_4_code_90) k) ?_
          show own_Gl _ _ _ _ _ _ _ (T8.setTop (mkF m 91 #[.val (.ref a), .val (.int pk), .val (.int pd), .val (.int pu), .val (.int (own_at xs z (pk + ((4 : Int32) * pd))))] [(.int (0 : Int32))]))
          exact own_retI X8 hx hlk hret (hb hby own_d_method_4_code_91) e8 ⟨by rw [own_near, if_neg hc15, if_neg hc38, if_neg hc61, if_neg hc84] <;> rfl, N8, rfl⟩ (by decide) (by decide)
theorem own_d_method_8_code_0 : decode method_8_code 0 = .ok (.aload_n 0, 1) := by decide +kernel
theorem own_d_method_8_code_1 : decode method_8_code 1 = .ok (.iload_n 1, 1) := by decide +kernel
theorem own_d_method_8_code_2 : decode method_8_code 2 = .ok (.invokestatic 9, 3) := by decide +kernel
theorem own_d_method_8_code_5 : decode method_8_code 5 = .ok (.iconst 2, 1) := by decide +kernel
theorem own_d_method_8_code_6 : decode method_8_code 6 = .ok (.if_icmp .ne 7, 3) := by decide +kernel
theorem own_d_method_8_code_9 : decode method_8_code 9 = .ok (.iconst 1, 1) := by decide +kernel
theorem own_d_method_8_code_10 : decode method_8_code 10 = .ok (.goto 4, 3) := by decide +kernel
theorem own_d_method_8_code_14 : decode method_8_code 14 = .ok (.ireturn, 1) := by decide +kernel
theorem own_d_method_8_code_13 : decode method_8_code 13 = .ok (.iconst 0, 1) := by decide +kernel
theorem own_ef_own_r_isU (m : MethodId) (x0 : Addr) (x1 : Int32) : entryFrame m #[(.ref x0), (.int x1)] 2 = mkF m 0 #[.val (.ref x0), .val (.int x1)] [] := by first | (simp [entryFrame, mkF, argsToLocals, Value.category]; done) | rfl
def own_Q_own_r_isU (Z : State) (a : Addr) (k : ClassId) (z : Int32) (xs : List Int32) (pk : Int32) (h0 : Heap) (n0 : Nat) (v : Option Value) (h : Heap) (L : List Loc) : Prop := (v = some (.int (own_isU xs z pk))) ∧ (Fr n0 L) ∧ (h = h0)
set_option maxRecDepth 65536 in
set_option maxHeartbeats 40000000 in
theorem own_r_isU (l : Launch) (Z : State) (a0 : Array Value) (hw : ∀ d ∈ tables_1, d.before a0 Z = true) (ws : List Jvm.Cond) (a : Addr) (k : ClassId) (z : Int32) (xs : List Int32) (pk : Int32) (h0 : Heap) (n0 : Nat) (Z0 : n0 ≤ h0.size) (V_a : Arv Z h0 a k .int z (xs.map Value.int) (.int (0 : Int32))) :
    MetFree l (⟨"org/benli/core/BernsteinSignChangesPinLaw", "isUntold", "([II)I"⟩ : MethodName) (head1 (Jvm.Cond.code (⟨"org/benli/core/BernsteinSignChangesPinLaw", "isUntold", "([II)I"⟩ : MethodName) method_8_code 2 (some .int) :: ws) ({ frames := 1, cells := 0, slots := 0, locals := 13 } : Room)) (fun xa xU => xa = #[(.ref a), (.int pk)] ∧ Z.Warmed39 xU.vm ∧ xU.heap = h0) (fun _ _ _ _ _ => True) (fun _ xU xo xV => ∃ v L, xo = .returned v ∧ own_Q_own_r_isU Z a k z xs pk h0 n0 v xV.heap L ∧ FrameEnd xU xo xV L ({ frames := 1, cells := 0, slots := 0, locals := 13 } : Room).cells ({ frames := 1, cells := 0, slots := 0, locals := 13 } : Room).slots) := by
  refine MetFree.of_bodySF (plainFor_of_name own_pn705322622) hisR ?_
  intro p e s m args below meth c s₁ Bd hml0 hP hK
  obtain ⟨rfl, hZ, hh⟩ := hP
  have hx := Bd.exec
  have hby := Bd.bytes
  have hlk := Bd.notSynchronized
  have hret := Bd.returns
  have hml : c.maxLocals = 2 := hml0
  have hown : s.vm.findClass "org/benli/core/BernsteinSignChangesPinLaw" = some m.cls := findClass_of_methodNamed Bd.named
  have hnm := (name_of_methodNamed Bd.named Bd.method).1
  have X0 : Stand p l e ({ frames := 1, cells := 0, slots := 0, locals := 13 } : Room) s m #[(.ref a), (.int pk)] below meth c s₁ [] 0 0 := Stand.of_body Bd
  have e0 : s₁.heap = h0 := by rw [← hh, Bd.state]; rfl
  have N0 := Fr.nil n0
  show own_Gl p e below s (own_Q_own_r_isU Z a k z xs pk h0 n0) ({ frames := 1, cells := 0, slots := 0, locals := 13 } : Room).cells ({ frames := 1, cells := 0, slots := 0, locals := 13 } : Room).slots _
  refine own_cast (own_ef_own_r_isU m a pk) ?_
  show own_Gl _ _ _ _ _ _ _ (s₁.setTop (mkF m 0 #[.val (.ref a), .val (.int pk)] []))
  refine own_st (fun _ k => XS.aloadN X0.here hx rfl (hb hby own_d_method_8_code_0) rfl rfl k) ?_
  show own_Gl _ _ _ _ _ _ _ (s₁.setTop (mkF m 1 #[.val (.ref a), .val (.int pk)] [(.ref a)]))
  refine own_st (fun _ k => XS.iloadN X0.here hx rfl (hb hby own_d_method_8_code_1) rfl k) ?_
  show own_Gl _ _ _ _ _ _ _ (s₁.setTop (mkF m 2 #[.val (.ref a), .val (.int pk)] [(.int pk), (.ref a)]))
  obtain ⟨_, _, ⟨T1, L1, k1, n1⟩, -, X1, ⟨Lc1, hQ1, l1, y1, z1⟩, st1⟩ := Jvm.LawKit.callS X0 hx (y := (⟨"org/benli/core/BernsteinSignChangesPinLaw", "at", "([II)I"⟩ : MethodName)) hown (mvT hZ (hw _ (List.mem_of_getElem? (i := 10) rfl))) (mvT hZ (hw _ (List.mem_of_getElem? (i := 11) rfl))) (mvT hZ (hw _ (List.mem_of_getElem? (i := 8) rfl))) (mvT hZ (hw _ (List.mem_of_getElem? (i := 12) rfl))) (by decide) (backOf (W := 0) (own_r_at l Z a0 hw [] a k z xs pk h0 n0 Z0 V_a) hZ (hw _ (List.mem_of_getElem? (i := 12) rfl)) (hw _ (List.mem_of_getElem? (i := 8) rfl)) (by decide) (by decide)) (g := (mkF m 2 #[.val (.ref a), .val (.int pk)] [(.int pk), (.ref a)])) rfl (by rw [hml]; rfl) (argsL := [(.ref a), (.int pk)]) (rest := []) (lenOf own_pd144447691 rfl) rfl (by show 2 * 0 + _ ≤ _; exact Nat.le_of_eq rfl) (hb hby own_d_method_8_code_2) (fun _ _ => ⟨rfl, e0, (by decide : 0 + 0 ≤ ({ frames := 1, cells := 0, slots := 0, locals := 13 } : Room).cells), (by decide : 0 + 0 ≤ ({ frames := 1, cells := 0, slots := 0, locals := 13 } : Room).slots)⟩)
  dsimp only [Pt.U, Pt.locs, Pt.cells, Pt.slots] at X1 l1 y1 z1 st1 hQ1
  subst l1 y1 z1
  obtain ⟨hh1, eh01⟩ : ∃ z, T1.heap = z := ⟨_, rfl⟩
  rw [eh01] at hQ1
  obtain ⟨rfl, Nq1, eh1⟩ := hQ1
  have N1 := Fr.app N0 Nq1
  refine own_st st1 ?_
  have e1 : T1.heap = h0 := eh01.trans eh1
  show own_Gl _ _ _ _ _ _ _ (T1.setTop (mkF m 5 #[.val (.ref a), .val (.int pk)] [(.int (own_at xs z pk))]))
  refine own_st (fun _ k => XS.iconst X1.here hx rfl (hb hby own_d_method_8_code_5) k) ?_
  show own_Gl _ _ _ _ _ _ _ (T1.setTop (mkF m 6 #[.val (.ref a), .val (.int pk)] [(.int (2 : Int32)), (.int (own_at xs z pk))]))
  by_cases hc6 : (own_at xs z pk) = (2 : Int32)
  · refine own_st (fun _ k => XS.icmpNo X1.here hx rfl (hb hby own_d_method_8_code_6) rfl (teq hc6).2 k) ?_
    show own_Gl _ _ _ _ _ _ _ (T1.setTop (mkF m 9 #[.val (.ref a), .val (.int pk)] []))
    refine own_st (fun _ k => XS.iconst X1.here hx rfl (hb hby own_d_method_8_code_9) k) ?_
    show own_Gl _ _ _ _ _ _ _ (T1.setTop (mkF m 10 #[.val (.ref a), .val (.int pk)] [(.int (1 : Int32))]))
    refine own_st (fun _ k => XS.goto X1.here hx rfl (pc0 := 10) (pc' := 14) rfl (hb hby own_d_method_8_code_10) (by decide) (by decide) k) ?_
    show own_Gl _ _ _ _ _ _ _ (T1.setTop (mkF m 14 #[.val (.ref a), .val (.int pk)] [(.int (1 : Int32))]))
    exact own_retI X1 hx hlk hret (hb hby own_d_method_8_code_14) e1 ⟨by rw [own_isU, if_pos hc6] <;> rfl, N1, rfl⟩ (by decide) (by decide)
  · refine own_st (fun _ k => XS.icmpYes X1.here hx rfl (pc0 := 6) (pc' := 13) rfl (hb hby own_d_method_8_code_6) rfl (feq hc6).2 (by decide) (by decide) k) ?_
    show own_Gl _ _ _ _ _ _ _ (T1.setTop (mkF m 13 #[.val (.ref a), .val (.int pk)] []))
    refine own_st (fun _ k => XS.iconst X1.here hx rfl (hb hby own_d_method_8_code_13) k) ?_
    show own_Gl _ _ _ _ _ _ _ (T1.setTop (mkF m 14 #[.val (.ref a), .val (.int pk)] [(.int (0 : Int32))]))
    exact own_retI X1 hx hlk hret (hb hby own_d_method_8_code_14) e1 ⟨by rw [own_isU, if_neg hc6] <;> rfl, N1, rfl⟩ (by decide) (by decide)
theorem own_d_method_9_code_0 : decode method_9_code 0 = .ok (.aload_n 0, 1) := by decide +kernel
theorem own_d_method_9_code_1 : decode method_9_code 1 = .ok (.iload_n 1, 1) := by decide +kernel
theorem own_d_method_9_code_2 : decode method_9_code 2 = .ok (.invokestatic 9, 3) := by decide +kernel
theorem own_d_method_9_code_5 : decode method_9_code 5 = .ok (.invokestatic 23, 3) := by decide +kernel
theorem own_pd91181854 : parseMethodDescriptor "(I)Z" = some ⟨[.int], some .boolean⟩ := by decide +kernel
theorem own_d_method_9_code_8 : decode method_9_code 8 = .ok (.ifCond .eq 7, 3) := by decide +kernel
theorem own_d_method_9_code_15 : decode method_9_code 15 = .ok (.iconst 0, 1) := by decide +kernel
theorem own_d_method_9_code_16 : decode method_9_code 16 = .ok (.ireturn, 1) := by decide +kernel
theorem own_d_method_9_code_11 : decode method_9_code 11 = .ok (.iconst 1, 1) := by decide +kernel
theorem own_d_method_9_code_12 : decode method_9_code 12 = .ok (.goto 4, 3) := by decide +kernel
theorem own_ef_own_r_isK (m : MethodId) (x0 : Addr) (x1 : Int32) : entryFrame m #[(.ref x0), (.int x1)] 2 = mkF m 0 #[.val (.ref x0), .val (.int x1)] [] := by first | (simp [entryFrame, mkF, argsToLocals, Value.category]; done) | rfl
def own_Q_own_r_isK (Z : State) (a : Addr) (k : ClassId) (z : Int32) (xs : List Int32) (pk : Int32) (h0 : Heap) (n0 : Nat) (v : Option Value) (h : Heap) (L : List Loc) : Prop := (v = some (.int (own_isK xs z pk))) ∧ (Fr n0 L) ∧ (h = h0)
set_option maxRecDepth 65536 in
set_option maxHeartbeats 40000000 in
theorem own_r_isK (l : Launch) (Z : State) (a0 : Array Value) (hw : ∀ d ∈ tables_1, d.before a0 Z = true) (ws : List Jvm.Cond) (a : Addr) (k : ClassId) (z : Int32) (xs : List Int32) (pk : Int32) (h0 : Heap) (n0 : Nat) (Z0 : n0 ≤ h0.size) (V_a : Arv Z h0 a k .int z (xs.map Value.int) (.int (0 : Int32))) :
    MetFree l (⟨"org/benli/core/BernsteinSignChangesPinLaw", "isKnown", "([II)I"⟩ : MethodName) (head1 (Jvm.Cond.code (⟨"org/benli/core/BernsteinSignChangesPinLaw", "isKnown", "([II)I"⟩ : MethodName) method_9_code 2 (some .int) :: ws) ({ frames := 1, cells := 0, slots := 0, locals := 13 } : Room)) (fun xa xU => xa = #[(.ref a), (.int pk)] ∧ Z.Warmed39 xU.vm ∧ xU.heap = h0) (fun _ _ _ _ _ => True) (fun _ xU xo xV => ∃ v L, xo = .returned v ∧ own_Q_own_r_isK Z a k z xs pk h0 n0 v xV.heap L ∧ FrameEnd xU xo xV L ({ frames := 1, cells := 0, slots := 0, locals := 13 } : Room).cells ({ frames := 1, cells := 0, slots := 0, locals := 13 } : Room).slots) := by
  refine MetFree.of_bodySF (plainFor_of_name own_pn705322622) hisR ?_
  intro p e s m args below meth c s₁ Bd hml0 hP hK
  obtain ⟨rfl, hZ, hh⟩ := hP
  have hx := Bd.exec
  have hby := Bd.bytes
  have hlk := Bd.notSynchronized
  have hret := Bd.returns
  have hml : c.maxLocals = 2 := hml0
  have hown : s.vm.findClass "org/benli/core/BernsteinSignChangesPinLaw" = some m.cls := findClass_of_methodNamed Bd.named
  have hnm := (name_of_methodNamed Bd.named Bd.method).1
  have X0 : Stand p l e ({ frames := 1, cells := 0, slots := 0, locals := 13 } : Room) s m #[(.ref a), (.int pk)] below meth c s₁ [] 0 0 := Stand.of_body Bd
  have e0 : s₁.heap = h0 := by rw [← hh, Bd.state]; rfl
  have N0 := Fr.nil n0
  show own_Gl p e below s (own_Q_own_r_isK Z a k z xs pk h0 n0) ({ frames := 1, cells := 0, slots := 0, locals := 13 } : Room).cells ({ frames := 1, cells := 0, slots := 0, locals := 13 } : Room).slots _
  refine own_cast (own_ef_own_r_isK m a pk) ?_
  show own_Gl _ _ _ _ _ _ _ (s₁.setTop (mkF m 0 #[.val (.ref a), .val (.int pk)] []))
  refine own_st (fun _ k => XS.aloadN X0.here hx rfl (hb hby own_d_method_9_code_0) rfl rfl k) ?_
  show own_Gl _ _ _ _ _ _ _ (s₁.setTop (mkF m 1 #[.val (.ref a), .val (.int pk)] [(.ref a)]))
  refine own_st (fun _ k => XS.iloadN X0.here hx rfl (hb hby own_d_method_9_code_1) rfl k) ?_
  show own_Gl _ _ _ _ _ _ _ (s₁.setTop (mkF m 2 #[.val (.ref a), .val (.int pk)] [(.int pk), (.ref a)]))
  obtain ⟨_, _, ⟨T1, L1, k1, n1⟩, -, X1, ⟨Lc1, hQ1, l1, y1, z1⟩, st1⟩ := Jvm.LawKit.callS X0 hx (y := (⟨"org/benli/core/BernsteinSignChangesPinLaw", "at", "([II)I"⟩ : MethodName)) hown (mvT hZ (hw _ (List.mem_of_getElem? (i := 10) rfl))) (mvT hZ (hw _ (List.mem_of_getElem? (i := 11) rfl))) (mvT hZ (hw _ (List.mem_of_getElem? (i := 8) rfl))) (mvT hZ (hw _ (List.mem_of_getElem? (i := 12) rfl))) (by decide) (backOf (W := 0) (own_r_at l Z a0 hw [] a k z xs pk h0 n0 Z0 V_a) hZ (hw _ (List.mem_of_getElem? (i := 12) rfl)) (hw _ (List.mem_of_getElem? (i := 8) rfl)) (by decide) (by decide)) (g := (mkF m 2 #[.val (.ref a), .val (.int pk)] [(.int pk), (.ref a)])) rfl (by rw [hml]; rfl) (argsL := [(.ref a), (.int pk)]) (rest := []) (lenOf own_pd144447691 rfl) rfl (by show 2 * 0 + _ ≤ _; exact Nat.le_of_eq rfl) (hb hby own_d_method_9_code_2) (fun _ _ => ⟨rfl, e0, (by decide : 0 + 0 ≤ ({ frames := 1, cells := 0, slots := 0, locals := 13 } : Room).cells), (by decide : 0 + 0 ≤ ({ frames := 1, cells := 0, slots := 0, locals := 13 } : Room).slots)⟩)
  dsimp only [Pt.U, Pt.locs, Pt.cells, Pt.slots] at X1 l1 y1 z1 st1 hQ1
  subst l1 y1 z1
  obtain ⟨hh1, eh01⟩ : ∃ z, T1.heap = z := ⟨_, rfl⟩
  rw [eh01] at hQ1
  obtain ⟨rfl, Nq1, eh1⟩ := hQ1
  have N1 := Fr.app N0 Nq1
  refine own_st st1 ?_
  have e1 : T1.heap = h0 := eh01.trans eh1
  show own_Gl _ _ _ _ _ _ _ (T1.setTop (mkF m 5 #[.val (.ref a), .val (.int pk)] [(.int (own_at xs z pk))]))
  obtain ⟨_, _, ⟨T2, L2, k2, n2⟩, -, X2, ⟨Lc2, hQ2, l2, y2, z2⟩, st2⟩ := Jvm.LawKit.callS X1 hx (y := (⟨"org/benli/core/BernsteinSignChangesPinLaw", "known", "(I)Z"⟩ : MethodName)) hown (mvT hZ (hw _ (List.mem_of_getElem? (i := 16) rfl))) (mvT hZ (hw _ (List.mem_of_getElem? (i := 17) rfl))) (mvT hZ (hw _ (List.mem_of_getElem? (i := 8) rfl))) (mvT hZ (hw _ (List.mem_of_getElem? (i := 18) rfl))) (by decide) (backOf (W := 0) (own_r_known l Z a0 hw [] (own_at xs z pk) h0 n0 Z0 ) hZ (hw _ (List.mem_of_getElem? (i := 18) rfl)) (hw _ (List.mem_of_getElem? (i := 8) rfl)) (by decide) (by decide)) (g := (mkF m 5 #[.val (.ref a), .val (.int pk)] [(.int (own_at xs z pk))])) rfl (by rw [hml]; rfl) (argsL := [(.int (own_at xs z pk))]) (rest := []) (lenOf own_pd91181854 rfl) rfl (by show 2 * 0 + _ ≤ _; exact Nat.le_of_eq rfl) (hb hby own_d_method_9_code_5) (fun _ _ => ⟨rfl, e1, (by decide : 0 + 0 ≤ ({ frames := 1, cells := 0, slots := 0, locals := 13 } : Room).cells), (by decide : 0 + 0 ≤ ({ frames := 1, cells := 0, slots := 0, locals := 13 } : Room).slots)⟩)
  dsimp only [Pt.U, Pt.locs, Pt.cells, Pt.slots] at X2 l2 y2 z2 st2 hQ2
  subst l2 y2 z2
  obtain ⟨hh2, eh02⟩ : ∃ z, T2.heap = z := ⟨_, rfl⟩
  rw [eh02] at hQ2
  obtain ⟨rfl, Nq2, eh2⟩ := hQ2
  have N2 := Fr.app N1 Nq2
  refine own_st st2 ?_
  have e2 : T2.heap = h0 := eh02.trans eh2
  show own_Gl _ _ _ _ _ _ _ (T2.setTop (mkF m 8 #[.val (.ref a), .val (.int pk)] [(.int (own_known (own_at xs z pk)))]))
  by_cases hc8 : (own_known (own_at xs z pk)) = (0 : Int32)
  · refine own_st (fun _ k => XS.ifYes X2.here hx rfl (pc0 := 8) (pc' := 15) rfl (hb hby own_d_method_9_code_8) rfl ((if0 _ _).trans (teq hc8).1) (by decide) (by decide) k) ?_
    show own_Gl _ _ _ _ _ _ _ (T2.setTop (mkF m 15 #[.val (.ref a), .val (.int pk)] []))
    refine own_st (fun _ k => XS.iconst X2.here hx rfl (hb hby own_d_method_9_code_15) k) ?_
    show own_Gl _ _ _ _ _ _ _ (T2.setTop (mkF m 16 #[.val (.ref a), .val (.int pk)] [(.int (0 : Int32))]))
    exact own_retI X2 hx hlk hret (hb hby own_d_method_9_code_16) e2 ⟨by rw [own_isK, if_pos hc8] <;> rfl, N2, rfl⟩ (by decide) (by decide)
  · refine own_st (fun _ k => XS.ifNo X2.here hx rfl (hb hby own_d_method_9_code_8) rfl ((if0 _ _).trans (feq hc8).1) k) ?_
    show own_Gl _ _ _ _ _ _ _ (T2.setTop (mkF m 11 #[.val (.ref a), .val (.int pk)] []))
    refine own_st (fun _ k => XS.iconst X2.here hx rfl (hb hby own_d_method_9_code_11) k) ?_
    show own_Gl _ _ _ _ _ _ _ (T2.setTop (mkF m 12 #[.val (.ref a), .val (.int pk)] [(.int (1 : Int32))]))
    refine own_st (fun _ k => XS.goto X2.here hx rfl (pc0 := 12) (pc' := 16) rfl (hb hby own_d_method_9_code_12) (by decide) (by decide) k) ?_
    show own_Gl _ _ _ _ _ _ _ (T2.setTop (mkF m 16 #[.val (.ref a), .val (.int pk)] [(.int (1 : Int32))]))
    exact own_retI X2 hx hlk hret (hb hby own_d_method_9_code_16) e2 ⟨by rw [own_isK, if_neg hc8] <;> rfl, N2, rfl⟩ (by decide) (by decide)
theorem own_d_method_6_code_0 : decode method_6_code 0 = .ok (.aload_n 0, 1) := by decide +kernel
theorem own_d_method_6_code_1 : decode method_6_code 1 = .ok (.iload_n 1, 1) := by decide +kernel
theorem own_d_method_6_code_2 : decode method_6_code 2 = .ok (.invokestatic 9, 3) := by decide +kernel
theorem own_d_method_6_code_5 : decode method_6_code 5 = .ok (.iconst 2, 1) := by decide +kernel
theorem own_d_method_6_code_6 : decode method_6_code 6 = .ok (.if_icmp .eq 5, 3) := by decide +kernel
theorem own_d_method_6_code_11 : decode method_6_code 11 = .ok (.aload_n 0, 1) := by decide +kernel
theorem own_d_method_6_code_12 : decode method_6_code 12 = .ok (.iload_n 1, 1) := by decide +kernel
theorem own_d_method_6_code_13 : decode method_6_code 13 = .ok (.iconst (-1), 1) := by decide +kernel
theorem own_d_method_6_code_14 : decode method_6_code 14 = .ok (.iconst 0, 1) := by decide +kernel
theorem own_d_method_6_code_15 : decode method_6_code 15 = .ok (.invokestatic 19, 3) := by decide +kernel
theorem own_pd939061344 : parseMethodDescriptor "([IIIZ)I" = some ⟨[(.array .int), .int, .int, .boolean], some .int⟩ := by decide +kernel
theorem own_d_method_6_code_18 : decode method_6_code 18 = .ok (.istore_n 2, 1) := by decide +kernel
theorem own_d_method_6_code_19 : decode method_6_code 19 = .ok (.aload_n 0, 1) := by decide +kernel
theorem own_d_method_6_code_20 : decode method_6_code 20 = .ok (.iload_n 1, 1) := by decide +kernel
theorem own_d_method_6_code_21 : decode method_6_code 21 = .ok (.iconst 1, 1) := by decide +kernel
theorem own_d_method_6_code_22 : decode method_6_code 22 = .ok (.iconst 0, 1) := by decide +kernel
theorem own_d_method_6_code_23 : decode method_6_code 23 = .ok (.invokestatic 19, 3) := by decide +kernel
theorem own_d_method_6_code_26 : decode method_6_code 26 = .ok (.istore_n 3, 1) := by decide +kernel
theorem own_d_method_6_code_27 : decode method_6_code 27 = .ok (.iload_n 2, 1) := by decide +kernel
theorem own_d_method_6_code_28 : decode method_6_code 28 = .ok (.invokestatic 23, 3) := by decide +kernel
theorem own_d_method_6_code_31 : decode method_6_code 31 = .ok (.ifCond .eq 20, 3) := by decide +kernel
theorem own_d_method_6_code_51 : decode method_6_code 51 = .ok (.iconst 0, 1) := by decide +kernel
theorem own_d_method_6_code_52 : decode method_6_code 52 = .ok (.ireturn, 1) := by decide +kernel
theorem own_d_method_6_code_34 : decode method_6_code 34 = .ok (.iload_n 3, 1) := by decide +kernel
theorem own_d_method_6_code_35 : decode method_6_code 35 = .ok (.invokestatic 23, 3) := by decide +kernel
theorem own_d_method_6_code_38 : decode method_6_code 38 = .ok (.ifCond .eq 13, 3) := by decide +kernel
theorem own_d_method_6_code_41 : decode method_6_code 41 = .ok (.iload_n 3, 1) := by decide +kernel
theorem own_d_method_6_code_42 : decode method_6_code 42 = .ok (.iload_n 2, 1) := by decide +kernel
theorem own_d_method_6_code_43 : decode method_6_code 43 = .ok (.ineg, 1) := by decide +kernel
theorem own_d_method_6_code_44 : decode method_6_code 44 = .ok (.if_icmp .ne 7, 3) := by decide +kernel
theorem own_d_method_6_code_47 : decode method_6_code 47 = .ok (.iconst 1, 1) := by decide +kernel
theorem own_d_method_6_code_48 : decode method_6_code 48 = .ok (.goto 4, 3) := by decide +kernel
theorem own_d_method_6_code_9 : decode method_6_code 9 = .ok (.iconst 1, 1) := by decide +kernel
theorem own_d_method_6_code_10 : decode method_6_code 10 = .ok (.ireturn, 1) := by decide +kernel
theorem own_ef_own_r_pinned (m : MethodId) (x0 : Addr) (x1 : Int32) : entryFrame m #[(.ref x0), (.int x1)] 4 = mkF m 0 #[.val (.ref x0), .val (.int x1), .unset, .unset] [] := by first | (simp [entryFrame, mkF, argsToLocals, Value.category]; done) | rfl
def own_Q_own_r_pinned (Z : State) (a : Addr) (k : ClassId) (z : Int32) (xs : List Int32) (pk : Int32) (h0 : Heap) (n0 : Nat) (v : Option Value) (h : Heap) (L : List Loc) : Prop := (v = some (.int (own_pinned xs z pk))) ∧ (Fr n0 L) ∧ (h = h0)
set_option maxRecDepth 65536 in
set_option maxHeartbeats 40000000 in
theorem own_r_pinned (l : Launch) (Z : State) (a0 : Array Value) (hw : ∀ d ∈ tables_1, d.before a0 Z = true) (ws : List Jvm.Cond) (a : Addr) (k : ClassId) (z : Int32) (xs : List Int32) (pk : Int32) (h0 : Heap) (n0 : Nat) (Z0 : n0 ≤ h0.size) (V_a : Arv Z h0 a k .int z (xs.map Value.int) (.int (0 : Int32))) :
    MetFree l (⟨"org/benli/core/BernsteinSignChangesPinLaw", "pinned", "([II)Z"⟩ : MethodName) (head1 (Jvm.Cond.code (⟨"org/benli/core/BernsteinSignChangesPinLaw", "pinned", "([II)Z"⟩ : MethodName) method_6_code 4 (some .boolean) :: ws) ({ frames := 2, cells := 0, slots := 0, locals := 29 } : Room)) (fun xa xU => xa = #[(.ref a), (.int pk)] ∧ Z.Warmed39 xU.vm ∧ xU.heap = h0) (fun _ _ _ _ _ => True) (fun _ xU xo xV => ∃ v L, xo = .returned v ∧ own_Q_own_r_pinned Z a k z xs pk h0 n0 v xV.heap L ∧ FrameEnd xU xo xV L ({ frames := 2, cells := 0, slots := 0, locals := 29 } : Room).cells ({ frames := 2, cells := 0, slots := 0, locals := 29 } : Room).slots) := by
  refine MetFree.of_bodySF (plainFor_of_name own_pn705322622) hisR ?_
  intro p e s m args below meth c s₁ Bd hml0 hP hK
  obtain ⟨rfl, hZ, hh⟩ := hP
  have hx := Bd.exec
  have hby := Bd.bytes
  have hlk := Bd.notSynchronized
  have hret := Bd.returns
  have hml : c.maxLocals = 4 := hml0
  have hown : s.vm.findClass "org/benli/core/BernsteinSignChangesPinLaw" = some m.cls := findClass_of_methodNamed Bd.named
  have hnm := (name_of_methodNamed Bd.named Bd.method).1
  have X0 : Stand p l e ({ frames := 2, cells := 0, slots := 0, locals := 29 } : Room) s m #[(.ref a), (.int pk)] below meth c s₁ [] 0 0 := Stand.of_body Bd
  have e0 : s₁.heap = h0 := by rw [← hh, Bd.state]; rfl
  have N0 := Fr.nil n0
  show own_Gl p e below s (own_Q_own_r_pinned Z a k z xs pk h0 n0) ({ frames := 2, cells := 0, slots := 0, locals := 29 } : Room).cells ({ frames := 2, cells := 0, slots := 0, locals := 29 } : Room).slots _
  refine own_cast (own_ef_own_r_pinned m a pk) ?_
  show own_Gl _ _ _ _ _ _ _ (s₁.setTop (mkF m 0 #[.val (.ref a), .val (.int pk), .unset, .unset] []))
  refine own_st (fun _ k => XS.aloadN X0.here hx rfl (hb hby own_d_method_6_code_0) rfl rfl k) ?_
  show own_Gl _ _ _ _ _ _ _ (s₁.setTop (mkF m 1 #[.val (.ref a), .val (.int pk), .unset, .unset] [(.ref a)]))
  refine own_st (fun _ k => XS.iloadN X0.here hx rfl (hb hby own_d_method_6_code_1) rfl k) ?_
  show own_Gl _ _ _ _ _ _ _ (s₁.setTop (mkF m 2 #[.val (.ref a), .val (.int pk), .unset, .unset] [(.int pk), (.ref a)]))
  obtain ⟨_, _, ⟨T1, L1, k1, n1⟩, -, X1, ⟨Lc1, hQ1, l1, y1, z1⟩, st1⟩ := Jvm.LawKit.callS X0 hx (y := (⟨"org/benli/core/BernsteinSignChangesPinLaw", "at", "([II)I"⟩ : MethodName)) hown (mvT hZ (hw _ (List.mem_of_getElem? (i := 10) rfl))) (mvT hZ (hw _ (List.mem_of_getElem? (i := 11) rfl))) (mvT hZ (hw _ (List.mem_of_getElem? (i := 8) rfl))) (mvT hZ (hw _ (List.mem_of_getElem? (i := 12) rfl))) (by decide) (backOf (W := 0) (own_r_at l Z a0 hw [] a k z xs pk h0 n0 Z0 V_a) hZ (hw _ (List.mem_of_getElem? (i := 12) rfl)) (hw _ (List.mem_of_getElem? (i := 8) rfl)) (by decide) (by decide)) (g := (mkF m 2 #[.val (.ref a), .val (.int pk), .unset, .unset] [(.int pk), (.ref a)])) rfl (by rw [hml]; rfl) (argsL := [(.ref a), (.int pk)]) (rest := []) (lenOf own_pd144447691 rfl) rfl (by show 2 * 0 + _ ≤ _; exact Nat.le_of_eq rfl) (hb hby own_d_method_6_code_2) (fun _ _ => ⟨rfl, e0, (by decide : 0 + 0 ≤ ({ frames := 2, cells := 0, slots := 0, locals := 29 } : Room).cells), (by decide : 0 + 0 ≤ ({ frames := 2, cells := 0, slots := 0, locals := 29 } : Room).slots)⟩)
  dsimp only [Pt.U, Pt.locs, Pt.cells, Pt.slots] at X1 l1 y1 z1 st1 hQ1
  subst l1 y1 z1
  obtain ⟨hh1, eh01⟩ : ∃ z, T1.heap = z := ⟨_, rfl⟩
  rw [eh01] at hQ1
  obtain ⟨rfl, Nq1, eh1⟩ := hQ1
  have N1 := Fr.app N0 Nq1
  refine own_st st1 ?_
  have e1 : T1.heap = h0 := eh01.trans eh1
  show own_Gl _ _ _ _ _ _ _ (T1.setTop (mkF m 5 #[.val (.ref a), .val (.int pk), .unset, .unset] [(.int (own_at xs z pk))]))
  refine own_st (fun _ k => XS.iconst X1.here hx rfl (hb hby own_d_method_6_code_5) k) ?_
  show own_Gl _ _ _ _ _ _ _ (T1.setTop (mkF m 6 #[.val (.ref a), .val (.int pk), .unset, .unset] [(.int (2 : Int32)), (.int (own_at xs z pk))]))
  by_cases hc6 : (own_at xs z pk) = (2 : Int32)
  · refine own_st (fun _ k => XS.icmpYes X1.here hx rfl (pc0 := 6) (pc' := 11) rfl (hb hby own_d_method_6_code_6) rfl (teq hc6).1 (by decide) (by decide) k) ?_
    show own_Gl _ _ _ _ _ _ _ (T1.setTop (mkF m 11 #[.val (.ref a), .val (.int pk), .unset, .unset] []))
    refine own_st (fun _ k => XS.aloadN X1.here hx rfl (hb hby own_d_method_6_code_11) rfl rfl k) ?_
    show own_Gl _ _ _ _ _ _ _ (T1.setTop (mkF m 12 #[.val (.ref a), .val (.int pk), .unset, .unset] [(.ref a)]))
    refine own_st (fun _ k => XS.iloadN X1.here hx rfl (hb hby own_d_method_6_code_12) rfl k) ?_
    show own_Gl _ _ _ _ _ _ _ (T1.setTop (mkF m 13 #[.val (.ref a), .val (.int pk), .unset, .unset] [(.int pk), (.ref a)]))
    refine own_st (fun _ k => XS.iconst X1.here hx rfl (hb hby own_d_method_6_code_13) k) ?_
    show own_Gl _ _ _ _ _ _ _ (T1.setTop (mkF m 14 #[.val (.ref a), .val (.int pk), .unset, .unset] [(.int (-1 : Int32)), (.int pk), (.ref a)]))
    refine own_st (fun _ k => XS.iconst X1.here hx rfl (hb hby own_d_method_6_code_14) k) ?_
    show own_Gl _ _ _ _ _ _ _ (T1.setTop (mkF m 15 #[.val (.ref a), .val (.int pk), .unset, .unset] [(.int (0 : Int32)), (.int (-1 : Int32)), (.int pk), (.ref a)]))
    obtain ⟨_, _, ⟨T2, L2, k2, n2⟩, -, X2, ⟨Lc2, hQ2, l2, y2, z2⟩, st2⟩ := Jvm.LawKit.callS X1 hx (y := (⟨"org/benli/core/BernsteinSignChangesPinLaw", "near", "([IIIZ)I"⟩ : MethodName)) hown (mvT hZ (hw _ (List.mem_of_getElem? (i := 25) rfl))) (mvT hZ (hw _ (List.mem_of_getElem? (i := 26) rfl))) (mvT hZ (hw _ (List.mem_of_getElem? (i := 8) rfl))) (mvT hZ (hw _ (List.mem_of_getElem? (i := 27) rfl))) (by decide) (backOf (W := 0) (own_r_near l Z a0 hw [] a k z xs pk (-1 : Int32) (0 : Int32) h0 n0 Z0 V_a) hZ (hw _ (List.mem_of_getElem? (i := 27) rfl)) (hw _ (List.mem_of_getElem? (i := 8) rfl)) (by decide) (by decide)) (g := (mkF m 15 #[.val (.ref a), .val (.int pk), .unset, .unset] [(.int (0 : Int32)), (.int (-1 : Int32)), (.int pk), (.ref a)])) rfl (by rw [hml]; rfl) (argsL := [(.ref a), (.int pk), (.int (-1 : Int32)), (.int (0 : Int32))]) (rest := []) (lenOf own_pd939061344 rfl) rfl (by show 2 * 0 + _ ≤ _; exact Nat.le_of_eq rfl) (hb hby own_d_method_6_code_15) (fun _ _ => ⟨rfl, e1, (by decide : 0 + 0 ≤ ({ frames := 2, cells := 0, slots := 0, locals := 29 } : Room).cells), (by decide : 0 + 0 ≤ ({ frames := 2, cells := 0, slots := 0, locals := 29 } : Room).slots)⟩)
    dsimp only [Pt.U, Pt.locs, Pt.cells, Pt.slots] at X2 l2 y2 z2 st2 hQ2
    subst l2 y2 z2
    obtain ⟨hh2, eh02⟩ : ∃ z, T2.heap = z := ⟨_, rfl⟩
    rw [eh02] at hQ2
    obtain ⟨rfl, Nq2, eh2⟩ := hQ2
    have N2 := Fr.app N1 Nq2
    refine own_st st2 ?_
    have e2 : T2.heap = h0 := eh02.trans eh2
    show own_Gl _ _ _ _ _ _ _ (T2.setTop (mkF m 18 #[.val (.ref a), .val (.int pk), .unset, .unset] [(.int (own_near xs z pk (-1 : Int32) (0 : Int32)))]))
    refine own_st (fun _ k => XS.istoreN X2.here hx rfl (hb hby own_d_method_6_code_18) rfl (l' := #[.val (.ref a), .val (.int pk), .val (.int (own_near xs z pk (-1 : Int32) (0 : Int32))), .unset]) rfl k) ?_
    show own_Gl _ _ _ _ _ _ _ (T2.setTop (mkF m 19 #[.val (.ref a), .val (.int pk), .val (.int (own_near xs z pk (-1 : Int32) (0 : Int32))), .unset] []))
    refine own_st (fun _ k => XS.aloadN X2.here hx rfl (hb hby own_d_method_6_code_19) rfl rfl k) ?_
    show own_Gl _ _ _ _ _ _ _ (T2.setTop (mkF m 20 #[.val (.ref a), .val (.int pk), .val (.int (own_near xs z pk (-1 : Int32) (0 : Int32))), .unset] [(.ref a)]))
    refine own_st (fun _ k => XS.iloadN X2.here hx rfl (hb hby own_d_method_6_code_20) rfl k) ?_
    show own_Gl _ _ _ _ _ _ _ (T2.setTop (mkF m 21 #[.val (.ref a), .val (.int pk), .val (.int (own_near xs z pk (-1 : Int32) (0 : Int32))), .unset] [(.int pk), (.ref a)]))
    refine own_st (fun _ k => XS.iconst X2.here hx rfl (hb hby own_d_method_6_code_21) k) ?_
    show own_Gl _ _ _ _ _ _ _ (T2.setTop (mkF m 22 #[.val (.ref a), .val (.int pk), .val (.int (own_near xs z pk (-1 : Int32) (0 : Int32))), .unset] [(.int (1 : Int32)), (.int pk), (.ref a)]))
    refine own_st (fun _ k => XS.iconst X2.here hx rfl (hb hby own_d_method_6_code_22) k) ?_
    show own_Gl _ _ _ _ _ _ _ (T2.setTop (mkF m 23 #[.val (.ref a), .val (.int pk), .val (.int (own_near xs z pk (-1 : Int32) (0 : Int32))), .unset] [(.int (0 : Int32)), (.int (1 : Int32)), (.int pk), (.ref a)]))
    obtain ⟨_, _, ⟨T3, L3, k3, n3⟩, -, X3, ⟨Lc3, hQ3, l3, y3, z3⟩, st3⟩ := Jvm.LawKit.callS X2 hx (y := (⟨"org/benli/core/BernsteinSignChangesPinLaw", "near", "([IIIZ)I"⟩ : MethodName)) hown (mvT hZ (hw _ (List.mem_of_getElem? (i := 25) rfl))) (mvT hZ (hw _ (List.mem_of_getElem? (i := 26) rfl))) (mvT hZ (hw _ (List.mem_of_getElem? (i := 8) rfl))) (mvT hZ (hw _ (List.mem_of_getElem? (i := 27) rfl))) (by decide) (backOf (W := 0) (own_r_near l Z a0 hw [] a k z xs pk (1 : Int32) (0 : Int32) h0 n0 Z0 V_a) hZ (hw _ (List.mem_of_getElem? (i := 27) rfl)) (hw _ (List.mem_of_getElem? (i := 8) rfl)) (by decide) (by decide)) (g := (mkF m 23 #[.val (.ref a), .val (.int pk), .val (.int (own_near xs z pk (-1 : Int32) (0 : Int32))), .unset] [(.int (0 : Int32)), (.int (1 : Int32)), (.int pk), (.ref a)])) rfl (by rw [hml]; rfl) (argsL := [(.ref a), (.int pk), (.int (1 : Int32)), (.int (0 : Int32))]) (rest := []) (lenOf own_pd939061344 rfl) rfl (by show 2 * 0 + _ ≤ _; exact Nat.le_of_eq rfl) (hb hby own_d_method_6_code_23) (fun _ _ => ⟨rfl, e2, (by decide : 0 + 0 ≤ ({ frames := 2, cells := 0, slots := 0, locals := 29 } : Room).cells), (by decide : 0 + 0 ≤ ({ frames := 2, cells := 0, slots := 0, locals := 29 } : Room).slots)⟩)
    dsimp only [Pt.U, Pt.locs, Pt.cells, Pt.slots] at X3 l3 y3 z3 st3 hQ3
    subst l3 y3 z3
    obtain ⟨hh3, eh03⟩ : ∃ z, T3.heap = z := ⟨_, rfl⟩
    rw [eh03] at hQ3
    obtain ⟨rfl, Nq3, eh3⟩ := hQ3
    have N3 := Fr.app N2 Nq3
    refine own_st st3 ?_
    have e3 : T3.heap = h0 := eh03.trans eh3
    show own_Gl _ _ _ _ _ _ _ (T3.setTop (mkF m 26 #[.val (.ref a), .val (.int pk), .val (.int (own_near xs z pk (-1 : Int32) (0 : Int32))), .unset] [(.int (own_near xs z pk (1 : Int32) (0 : Int32)))]))
    refine own_st (fun _ k => XS.istoreN X3.here hx rfl (hb hby own_d_method_6_code_26) rfl (l' := #[.val (.ref a), .val (.int pk), .val (.int (own_near xs z pk (-1 : Int32) (0 : Int32))), .val (.int (own_near xs z pk (1 : Int32) (0 : Int32)))]) rfl k) ?_
    show own_Gl _ _ _ _ _ _ _ (T3.setTop (mkF m 27 #[.val (.ref a), .val (.int pk), .val (.int (own_near xs z pk (-1 : Int32) (0 : Int32))), .val (.int (own_near xs z pk (1 : Int32) (0 : Int32)))] []))
    refine own_st (fun _ k => XS.iloadN X3.here hx rfl (hb hby own_d_method_6_code_27) rfl k) ?_
    show own_Gl _ _ _ _ _ _ _ (T3.setTop (mkF m 28 #[.val (.ref a), .val (.int pk), .val (.int (own_near xs z pk (-1 : Int32) (0 : Int32))), .val (.int (own_near xs z pk (1 : Int32) (0 : Int32)))] [(.int (own_near xs z pk (-1 : Int32) (0 : Int32)))]))
    obtain ⟨_, _, ⟨T4, L4, k4, n4⟩, -, X4, ⟨Lc4, hQ4, l4, y4, z4⟩, st4⟩ := Jvm.LawKit.callS X3 hx (y := (⟨"org/benli/core/BernsteinSignChangesPinLaw", "known", "(I)Z"⟩ : MethodName)) hown (mvT hZ (hw _ (List.mem_of_getElem? (i := 16) rfl))) (mvT hZ (hw _ (List.mem_of_getElem? (i := 17) rfl))) (mvT hZ (hw _ (List.mem_of_getElem? (i := 8) rfl))) (mvT hZ (hw _ (List.mem_of_getElem? (i := 18) rfl))) (by decide) (backOf (W := 0) (own_r_known l Z a0 hw [] (own_near xs z pk (-1 : Int32) (0 : Int32)) h0 n0 Z0 ) hZ (hw _ (List.mem_of_getElem? (i := 18) rfl)) (hw _ (List.mem_of_getElem? (i := 8) rfl)) (by decide) (by decide)) (g := (mkF m 28 #[.val (.ref a), .val (.int pk), .val (.int (own_near xs z pk (-1 : Int32) (0 : Int32))), .val (.int (own_near xs z pk (1 : Int32) (0 : Int32)))] [(.int (own_near xs z pk (-1 : Int32) (0 : Int32)))])) rfl (by rw [hml]; rfl) (argsL := [(.int (own_near xs z pk (-1 : Int32) (0 : Int32)))]) (rest := []) (lenOf own_pd91181854 rfl) rfl (by show 2 * 0 + _ ≤ _; exact Nat.le_of_eq rfl) (hb hby own_d_method_6_code_28) (fun _ _ => ⟨rfl, e3, (by decide : 0 + 0 ≤ ({ frames := 2, cells := 0, slots := 0, locals := 29 } : Room).cells), (by decide : 0 + 0 ≤ ({ frames := 2, cells := 0, slots := 0, locals := 29 } : Room).slots)⟩)
    dsimp only [Pt.U, Pt.locs, Pt.cells, Pt.slots] at X4 l4 y4 z4 st4 hQ4
    subst l4 y4 z4
    obtain ⟨hh4, eh04⟩ : ∃ z, T4.heap = z := ⟨_, rfl⟩
    rw [eh04] at hQ4
    obtain ⟨rfl, Nq4, eh4⟩ := hQ4
    have N4 := Fr.app N3 Nq4
    refine own_st st4 ?_
    have e4 : T4.heap = h0 := eh04.trans eh4
    show own_Gl _ _ _ _ _ _ _ (T4.setTop (mkF m 31 #[.val (.ref a), .val (.int pk), .val (.int (own_near xs z pk (-1 : Int32) (0 : Int32))), .val (.int (own_near xs z pk (1 : Int32) (0 : Int32)))] [(.int (own_known (own_near xs z pk (-1 : Int32) (0 : Int32))))]))
    by_cases hc31 : (own_known (own_near xs z pk (-1 : Int32) (0 : Int32))) = (0 : Int32)
    · refine own_st (fun _ k => XS.ifYes X4.here hx rfl (pc0 := 31) (pc' := 51) rfl (hb hby own_d_method_6_code_31) rfl ((if0 _ _).trans (teq hc31).1) (by decide) (by decide) k) ?_
      show own_Gl _ _ _ _ _ _ _ (T4.setTop (mkF m 51 #[.val (.ref a), .val (.int pk), .val (.int (own_near xs z pk (-1 : Int32) (0 : Int32))), .val (.int (own_near xs z pk (1 : Int32) (0 : Int32)))] []))
      refine own_st (fun _ k => XS.iconst X4.here hx rfl (hb hby own_d_method_6_code_51) k) ?_
      show own_Gl _ _ _ _ _ _ _ (T4.setTop (mkF m 52 #[.val (.ref a), .val (.int pk), .val (.int (own_near xs z pk (-1 : Int32) (0 : Int32))), .val (.int (own_near xs z pk (1 : Int32) (0 : Int32)))] [(.int (0 : Int32))]))
      exact own_retN X4 hx hlk (t := .boolean) hret (by simp) (hb hby own_d_method_6_code_52) e4 ⟨by rw [own_pinned, if_pos hc6, if_pos hc31] <;> rfl, N4, rfl⟩ (by decide) (by decide)
    · refine own_st (fun _ k => XS.ifNo X4.here hx rfl (hb hby own_d_method_6_code_31) rfl ((if0 _ _).trans (feq hc31).1) k) ?_
      show own_Gl _ _ _ _ _ _ _ (T4.setTop (mkF m 34 #[.val (.ref a), .val (.int pk), .val (.int (own_near xs z pk (-1 : Int32) (0 : Int32))), .val (.int (own_near xs z pk (1 : Int32) (0 : Int32)))] []))
      refine own_st (fun _ k => XS.iloadN X4.here hx rfl (hb hby own_d_method_6_code_34) rfl k) ?_
      show own_Gl _ _ _ _ _ _ _ (T4.setTop (mkF m 35 #[.val (.ref a), .val (.int pk), .val (.int (own_near xs z pk (-1 : Int32) (0 : Int32))), .val (.int (own_near xs z pk (1 : Int32) (0 : Int32)))] [(.int (own_near xs z pk (1 : Int32) (0 : Int32)))]))
      obtain ⟨_, _, ⟨T5, L5, k5, n5⟩, -, X5, ⟨Lc5, hQ5, l5, y5, z5⟩, st5⟩ := Jvm.LawKit.callS X4 hx (y := (⟨"org/benli/core/BernsteinSignChangesPinLaw", "known", "(I)Z"⟩ : MethodName)) hown (mvT hZ (hw _ (List.mem_of_getElem? (i := 16) rfl))) (mvT hZ (hw _ (List.mem_of_getElem? (i := 17) rfl))) (mvT hZ (hw _ (List.mem_of_getElem? (i := 8) rfl))) (mvT hZ (hw _ (List.mem_of_getElem? (i := 18) rfl))) (by decide) (backOf (W := 0) (own_r_known l Z a0 hw [] (own_near xs z pk (1 : Int32) (0 : Int32)) h0 n0 Z0 ) hZ (hw _ (List.mem_of_getElem? (i := 18) rfl)) (hw _ (List.mem_of_getElem? (i := 8) rfl)) (by decide) (by decide)) (g := (mkF m 35 #[.val (.ref a), .val (.int pk), .val (.int (own_near xs z pk (-1 : Int32) (0 : Int32))), .val (.int (own_near xs z pk (1 : Int32) (0 : Int32)))] [(.int (own_near xs z pk (1 : Int32) (0 : Int32)))])) rfl (by rw [hml]; rfl) (argsL := [(.int (own_near xs z pk (1 : Int32) (0 : Int32)))]) (rest := []) (lenOf own_pd91181854 rfl) rfl (by show 2 * 0 + _ ≤ _; exact Nat.le_of_eq rfl) (hb hby own_d_method_6_code_35) (fun _ _ => ⟨rfl, e4, (by decide : 0 + 0 ≤ ({ frames := 2, cells := 0, slots := 0, locals := 29 } : Room).cells), (by decide : 0 + 0 ≤ ({ frames := 2, cells := 0, slots := 0, locals := 29 } : Room).slots)⟩)
      dsimp only [Pt.U, Pt.locs, Pt.cells, Pt.slots] at X5 l5 y5 z5 st5 hQ5
      subst l5 y5 z5
      obtain ⟨hh5, eh05⟩ : ∃ z, T5.heap = z := ⟨_, rfl⟩
      rw [eh05] at hQ5
      obtain ⟨rfl, Nq5, eh5⟩ := hQ5
      have N5 := Fr.app N4 Nq5
      refine own_st st5 ?_
      have e5 : T5.heap = h0 := eh05.trans eh5
      show own_Gl _ _ _ _ _ _ _ (T5.setTop (mkF m 38 #[.val (.ref a), .val (.int pk), .val (.int (own_near xs z pk (-1 : Int32) (0 : Int32))), .val (.int (own_near xs z pk (1 : Int32) (0 : Int32)))] [(.int (own_known (own_near xs z pk (1 : Int32) (0 : Int32))))]))
      by_cases hc38 : (own_known (own_near xs z pk (1 : Int32) (0 : Int32))) = (0 : Int32)
      · refine own_st (fun _ k => XS.ifYes X5.here hx rfl (pc0 := 38) (pc' := 51) rfl (hb hby own_d_method_6_code_38) rfl ((if0 _ _).trans (teq hc38).1) (by decide) (by decide) k) ?_
        show own_Gl _ _ _ _ _ _ _ (T5.setTop (mkF m 51 #[.val (.ref a), .val (.int pk), .val (.int (own_near xs z pk (-1 : Int32) (0 : Int32))), .val (.int (own_near xs z pk (1 : Int32) (0 : Int32)))] []))
        refine own_st (fun _ k => XS.iconst X5.here hx rfl (hb hby own_d_method_6_code_51) k) ?_
        show own_Gl _ _ _ _ _ _ _ (T5.setTop (mkF m 52 #[.val (.ref a), .val (.int pk), .val (.int (own_near xs z pk (-1 : Int32) (0 : Int32))), .val (.int (own_near xs z pk (1 : Int32) (0 : Int32)))] [(.int (0 : Int32))]))
        exact own_retN X5 hx hlk (t := .boolean) hret (by simp) (hb hby own_d_method_6_code_52) e5 ⟨by rw [own_pinned, if_pos hc6, if_neg hc31, if_pos hc38] <;> rfl, N5, rfl⟩ (by decide) (by decide)
      · refine own_st (fun _ k => XS.ifNo X5.here hx rfl (hb hby own_d_method_6_code_38) rfl ((if0 _ _).trans (feq hc38).1) k) ?_
        show own_Gl _ _ _ _ _ _ _ (T5.setTop (mkF m 41 #[.val (.ref a), .val (.int pk), .val (.int (own_near xs z pk (-1 : Int32) (0 : Int32))), .val (.int (own_near xs z pk (1 : Int32) (0 : Int32)))] []))
        refine own_st (fun _ k => XS.iloadN X5.here hx rfl (hb hby own_d_method_6_code_41) rfl k) ?_
        show own_Gl _ _ _ _ _ _ _ (T5.setTop (mkF m 42 #[.val (.ref a), .val (.int pk), .val (.int (own_near xs z pk (-1 : Int32) (0 : Int32))), .val (.int (own_near xs z pk (1 : Int32) (0 : Int32)))] [(.int (own_near xs z pk (1 : Int32) (0 : Int32)))]))
        refine own_st (fun _ k => XS.iloadN X5.here hx rfl (hb hby own_d_method_6_code_42) rfl k) ?_
        show own_Gl _ _ _ _ _ _ _ (T5.setTop (mkF m 43 #[.val (.ref a), .val (.int pk), .val (.int (own_near xs z pk (-1 : Int32) (0 : Int32))), .val (.int (own_near xs z pk (1 : Int32) (0 : Int32)))] [(.int (own_near xs z pk (-1 : Int32) (0 : Int32))), (.int (own_near xs z pk (1 : Int32) (0 : Int32)))]))
        refine own_st (fun _ k => XS.ineg X5.here hx rfl (hb hby own_d_method_6_code_43) rfl k) ?_
        show own_Gl _ _ _ _ _ _ _ (T5.setTop (mkF m 44 #[.val (.ref a), .val (.int pk), .val (.int (own_near xs z pk (-1 : Int32) (0 : Int32))), .val (.int (own_near xs z pk (1 : Int32) (0 : Int32)))] [(.int (-(own_near xs z pk (-1 : Int32) (0 : Int32)))), (.int (own_near xs z pk (1 : Int32) (0 : Int32)))]))
        by_cases hc44 : (own_near xs z pk (1 : Int32) (0 : Int32)) = (-(own_near xs z pk (-1 : Int32) (0 : Int32)))
        · refine own_st (fun _ k => XS.icmpNo X5.here hx rfl (hb hby own_d_method_6_code_44) rfl (teq hc44).2 k) ?_
          show own_Gl _ _ _ _ _ _ _ (T5.setTop (mkF m 47 #[.val (.ref a), .val (.int pk), .val (.int (own_near xs z pk (-1 : Int32) (0 : Int32))), .val (.int (own_near xs z pk (1 : Int32) (0 : Int32)))] []))
          refine own_st (fun _ k => XS.iconst X5.here hx rfl (hb hby own_d_method_6_code_47) k) ?_
          show own_Gl _ _ _ _ _ _ _ (T5.setTop (mkF m 48 #[.val (.ref a), .val (.int pk), .val (.int (own_near xs z pk (-1 : Int32) (0 : Int32))), .val (.int (own_near xs z pk (1 : Int32) (0 : Int32)))] [(.int (1 : Int32))]))
          refine own_st (fun _ k => XS.goto X5.here hx rfl (pc0 := 48) (pc' := 52) rfl (hb hby own_d_method_6_code_48) (by decide) (by decide) k) ?_
          show own_Gl _ _ _ _ _ _ _ (T5.setTop (mkF m 52 #[.val (.ref a), .val (.int pk), .val (.int (own_near xs z pk (-1 : Int32) (0 : Int32))), .val (.int (own_near xs z pk (1 : Int32) (0 : Int32)))] [(.int (1 : Int32))]))
          exact own_retN X5 hx hlk (t := .boolean) hret (by simp) (hb hby own_d_method_6_code_52) e5 ⟨by rw [own_pinned, if_pos hc6, if_neg hc31, if_neg hc38, if_pos hc44] <;> rfl, N5, rfl⟩ (by decide) (by decide)
        · refine own_st (fun _ k => XS.icmpYes X5.here hx rfl (pc0 := 44) (pc' := 51) rfl (hb hby own_d_method_6_code_44) rfl (feq hc44).2 (by decide) (by decide) k) ?_
          show own_Gl _ _ _ _ _ _ _ (T5.setTop (mkF m 51 #[.val (.ref a), .val (.int pk), .val (.int (own_near xs z pk (-1 : Int32) (0 : Int32))), .val (.int (own_near xs z pk (1 : Int32) (0 : Int32)))] []))
          refine own_st (fun _ k => XS.iconst X5.here hx rfl (hb hby own_d_method_6_code_51) k) ?_
          show own_Gl _ _ _ _ _ _ _ (T5.setTop (mkF m 52 #[.val (.ref a), .val (.int pk), .val (.int (own_near xs z pk (-1 : Int32) (0 : Int32))), .val (.int (own_near xs z pk (1 : Int32) (0 : Int32)))] [(.int (0 : Int32))]))
          exact own_retN X5 hx hlk (t := .boolean) hret (by simp) (hb hby own_d_method_6_code_52) e5 ⟨by rw [own_pinned, if_pos hc6, if_neg hc31, if_neg hc38, if_neg hc44] <;> rfl, N5, rfl⟩ (by decide) (by decide)
  · refine own_st (fun _ k => XS.icmpNo X1.here hx rfl (hb hby own_d_method_6_code_6) rfl (feq hc6).1 k) ?_
    show own_Gl _ _ _ _ _ _ _ (T1.setTop (mkF m 9 #[.val (.ref a), .val (.int pk), .unset, .unset] []))
    refine own_st (fun _ k => XS.iconst X1.here hx rfl (hb hby own_d_method_6_code_9) k) ?_
    show own_Gl _ _ _ _ _ _ _ (T1.setTop (mkF m 10 #[.val (.ref a), .val (.int pk), .unset, .unset] [(.int (1 : Int32))]))
    exact own_retN X1 hx hlk (t := .boolean) hret (by simp) (hb hby own_d_method_6_code_10) e1 ⟨by rw [own_pinned, if_neg hc6] <;> rfl, N1, rfl⟩ (by decide) (by decide)
theorem own_d_method_7_code_0 : decode method_7_code 0 = .ok (.aload_n 0, 1) := by decide +kernel
theorem own_d_method_7_code_1 : decode method_7_code 1 = .ok (.iload_n 1, 1) := by decide +kernel
theorem own_d_method_7_code_2 : decode method_7_code 2 = .ok (.invokestatic 9, 3) := by decide +kernel
theorem own_d_method_7_code_5 : decode method_7_code 5 = .ok (.istore_n 2, 1) := by decide +kernel
theorem own_d_method_7_code_6 : decode method_7_code 6 = .ok (.iload_n 2, 1) := by decide +kernel
theorem own_d_method_7_code_7 : decode method_7_code 7 = .ok (.invokestatic 23, 3) := by decide +kernel
theorem own_d_method_7_code_10 : decode method_7_code 10 = .ok (.ifCond .ne 5, 3) := by decide +kernel
theorem own_d_method_7_code_13 : decode method_7_code 13 = .ok (.iconst 0, 1) := by decide +kernel
theorem own_d_method_7_code_14 : decode method_7_code 14 = .ok (.ireturn, 1) := by decide +kernel
theorem own_d_method_7_code_15 : decode method_7_code 15 = .ok (.aload_n 0, 1) := by decide +kernel
theorem own_d_method_7_code_16 : decode method_7_code 16 = .ok (.iload_n 1, 1) := by decide +kernel
theorem own_d_method_7_code_17 : decode method_7_code 17 = .ok (.iconst (-1), 1) := by decide +kernel
theorem own_d_method_7_code_18 : decode method_7_code 18 = .ok (.iconst 1, 1) := by decide +kernel
theorem own_d_method_7_code_19 : decode method_7_code 19 = .ok (.invokestatic 19, 3) := by decide +kernel
theorem own_d_method_7_code_22 : decode method_7_code 22 = .ok (.iload_n 2, 1) := by decide +kernel
theorem own_d_method_7_code_23 : decode method_7_code 23 = .ok (.ineg, 1) := by decide +kernel
theorem own_d_method_7_code_24 : decode method_7_code 24 = .ok (.if_icmp .ne 7, 3) := by decide +kernel
theorem own_d_method_7_code_27 : decode method_7_code 27 = .ok (.iconst 1, 1) := by decide +kernel
theorem own_d_method_7_code_28 : decode method_7_code 28 = .ok (.goto 4, 3) := by decide +kernel
theorem own_d_method_7_code_32 : decode method_7_code 32 = .ok (.ireturn, 1) := by decide +kernel
theorem own_d_method_7_code_31 : decode method_7_code 31 = .ok (.iconst 0, 1) := by decide +kernel
theorem own_ef_own_r_change (m : MethodId) (x0 : Addr) (x1 : Int32) : entryFrame m #[(.ref x0), (.int x1)] 3 = mkF m 0 #[.val (.ref x0), .val (.int x1), .unset] [] := by first | (simp [entryFrame, mkF, argsToLocals, Value.category]; done) | rfl
def own_Q_own_r_change (Z : State) (a : Addr) (k : ClassId) (z : Int32) (xs : List Int32) (pk : Int32) (h0 : Heap) (n0 : Nat) (v : Option Value) (h : Heap) (L : List Loc) : Prop := (v = some (.int (own_change xs z pk))) ∧ (Fr n0 L) ∧ (h = h0)
set_option maxRecDepth 65536 in
set_option maxHeartbeats 40000000 in
theorem own_r_change (l : Launch) (Z : State) (a0 : Array Value) (hw : ∀ d ∈ tables_1, d.before a0 Z = true) (ws : List Jvm.Cond) (a : Addr) (k : ClassId) (z : Int32) (xs : List Int32) (pk : Int32) (h0 : Heap) (n0 : Nat) (Z0 : n0 ≤ h0.size) (V_a : Arv Z h0 a k .int z (xs.map Value.int) (.int (0 : Int32))) :
    MetFree l (⟨"org/benli/core/BernsteinSignChangesPinLaw", "changeAt", "([II)I"⟩ : MethodName) (head1 (Jvm.Cond.code (⟨"org/benli/core/BernsteinSignChangesPinLaw", "changeAt", "([II)I"⟩ : MethodName) method_7_code 3 (some .int) :: ws) ({ frames := 2, cells := 0, slots := 0, locals := 29 } : Room)) (fun xa xU => xa = #[(.ref a), (.int pk)] ∧ Z.Warmed39 xU.vm ∧ xU.heap = h0) (fun _ _ _ _ _ => True) (fun _ xU xo xV => ∃ v L, xo = .returned v ∧ own_Q_own_r_change Z a k z xs pk h0 n0 v xV.heap L ∧ FrameEnd xU xo xV L ({ frames := 2, cells := 0, slots := 0, locals := 29 } : Room).cells ({ frames := 2, cells := 0, slots := 0, locals := 29 } : Room).slots) := by
  refine MetFree.of_bodySF (plainFor_of_name own_pn705322622) hisR ?_
  intro p e s m args below meth c s₁ Bd hml0 hP hK
  obtain ⟨rfl, hZ, hh⟩ := hP
  have hx := Bd.exec
  have hby := Bd.bytes
  have hlk := Bd.notSynchronized
  have hret := Bd.returns
  have hml : c.maxLocals = 3 := hml0
  have hown : s.vm.findClass "org/benli/core/BernsteinSignChangesPinLaw" = some m.cls := findClass_of_methodNamed Bd.named
  have hnm := (name_of_methodNamed Bd.named Bd.method).1
  have X0 : Stand p l e ({ frames := 2, cells := 0, slots := 0, locals := 29 } : Room) s m #[(.ref a), (.int pk)] below meth c s₁ [] 0 0 := Stand.of_body Bd
  have e0 : s₁.heap = h0 := by rw [← hh, Bd.state]; rfl
  have N0 := Fr.nil n0
  show own_Gl p e below s (own_Q_own_r_change Z a k z xs pk h0 n0) ({ frames := 2, cells := 0, slots := 0, locals := 29 } : Room).cells ({ frames := 2, cells := 0, slots := 0, locals := 29 } : Room).slots _
  refine own_cast (own_ef_own_r_change m a pk) ?_
  show own_Gl _ _ _ _ _ _ _ (s₁.setTop (mkF m 0 #[.val (.ref a), .val (.int pk), .unset] []))
  refine own_st (fun _ k => XS.aloadN X0.here hx rfl (hb hby own_d_method_7_code_0) rfl rfl k) ?_
  show own_Gl _ _ _ _ _ _ _ (s₁.setTop (mkF m 1 #[.val (.ref a), .val (.int pk), .unset] [(.ref a)]))
  refine own_st (fun _ k => XS.iloadN X0.here hx rfl (hb hby own_d_method_7_code_1) rfl k) ?_
  show own_Gl _ _ _ _ _ _ _ (s₁.setTop (mkF m 2 #[.val (.ref a), .val (.int pk), .unset] [(.int pk), (.ref a)]))
  obtain ⟨_, _, ⟨T1, L1, k1, n1⟩, -, X1, ⟨Lc1, hQ1, l1, y1, z1⟩, st1⟩ := Jvm.LawKit.callS X0 hx (y := (⟨"org/benli/core/BernsteinSignChangesPinLaw", "at", "([II)I"⟩ : MethodName)) hown (mvT hZ (hw _ (List.mem_of_getElem? (i := 10) rfl))) (mvT hZ (hw _ (List.mem_of_getElem? (i := 11) rfl))) (mvT hZ (hw _ (List.mem_of_getElem? (i := 8) rfl))) (mvT hZ (hw _ (List.mem_of_getElem? (i := 12) rfl))) (by decide) (backOf (W := 0) (own_r_at l Z a0 hw [] a k z xs pk h0 n0 Z0 V_a) hZ (hw _ (List.mem_of_getElem? (i := 12) rfl)) (hw _ (List.mem_of_getElem? (i := 8) rfl)) (by decide) (by decide)) (g := (mkF m 2 #[.val (.ref a), .val (.int pk), .unset] [(.int pk), (.ref a)])) rfl (by rw [hml]; rfl) (argsL := [(.ref a), (.int pk)]) (rest := []) (lenOf own_pd144447691 rfl) rfl (by show 2 * 0 + _ ≤ _; exact Nat.le_of_eq rfl) (hb hby own_d_method_7_code_2) (fun _ _ => ⟨rfl, e0, (by decide : 0 + 0 ≤ ({ frames := 2, cells := 0, slots := 0, locals := 29 } : Room).cells), (by decide : 0 + 0 ≤ ({ frames := 2, cells := 0, slots := 0, locals := 29 } : Room).slots)⟩)
  dsimp only [Pt.U, Pt.locs, Pt.cells, Pt.slots] at X1 l1 y1 z1 st1 hQ1
  subst l1 y1 z1
  obtain ⟨hh1, eh01⟩ : ∃ z, T1.heap = z := ⟨_, rfl⟩
  rw [eh01] at hQ1
  obtain ⟨rfl, Nq1, eh1⟩ := hQ1
  have N1 := Fr.app N0 Nq1
  refine own_st st1 ?_
  have e1 : T1.heap = h0 := eh01.trans eh1
  show own_Gl _ _ _ _ _ _ _ (T1.setTop (mkF m 5 #[.val (.ref a), .val (.int pk), .unset] [(.int (own_at xs z pk))]))
  refine own_st (fun _ k => XS.istoreN X1.here hx rfl (hb hby own_d_method_7_code_5) rfl (l' := #[.val (.ref a), .val (.int pk), .val (.int (own_at xs z pk))]) rfl k) ?_
  show own_Gl _ _ _ _ _ _ _ (T1.setTop (mkF m 6 #[.val (.ref a), .val (.int pk), .val (.int (own_at xs z pk))] []))
  refine own_st (fun _ k => XS.iloadN X1.here hx rfl (hb hby own_d_method_7_code_6) rfl k) ?_
  show own_Gl _ _ _ _ _ _ _ (T1.setTop (mkF m 7 #[.val (.ref a), .val (.int pk), .val (.int (own_at xs z pk))] [(.int (own_at xs z pk))]))
  obtain ⟨_, _, ⟨T2, L2, k2, n2⟩, -, X2, ⟨Lc2, hQ2, l2, y2, z2⟩, st2⟩ := Jvm.LawKit.callS X1 hx (y := (⟨"org/benli/core/BernsteinSignChangesPinLaw", "known", "(I)Z"⟩ : MethodName)) hown (mvT hZ (hw _ (List.mem_of_getElem? (i := 16) rfl))) (mvT hZ (hw _ (List.mem_of_getElem? (i := 17) rfl))) (mvT hZ (hw _ (List.mem_of_getElem? (i := 8) rfl))) (mvT hZ (hw _ (List.mem_of_getElem? (i := 18) rfl))) (by decide) (backOf (W := 0) (own_r_known l Z a0 hw [] (own_at xs z pk) h0 n0 Z0 ) hZ (hw _ (List.mem_of_getElem? (i := 18) rfl)) (hw _ (List.mem_of_getElem? (i := 8) rfl)) (by decide) (by decide)) (g := (mkF m 7 #[.val (.ref a), .val (.int pk), .val (.int (own_at xs z pk))] [(.int (own_at xs z pk))])) rfl (by rw [hml]; rfl) (argsL := [(.int (own_at xs z pk))]) (rest := []) (lenOf own_pd91181854 rfl) rfl (by show 2 * 0 + _ ≤ _; exact Nat.le_of_eq rfl) (hb hby own_d_method_7_code_7) (fun _ _ => ⟨rfl, e1, (by decide : 0 + 0 ≤ ({ frames := 2, cells := 0, slots := 0, locals := 29 } : Room).cells), (by decide : 0 + 0 ≤ ({ frames := 2, cells := 0, slots := 0, locals := 29 } : Room).slots)⟩)
  dsimp only [Pt.U, Pt.locs, Pt.cells, Pt.slots] at X2 l2 y2 z2 st2 hQ2
  subst l2 y2 z2
  obtain ⟨hh2, eh02⟩ : ∃ z, T2.heap = z := ⟨_, rfl⟩
  rw [eh02] at hQ2
  obtain ⟨rfl, Nq2, eh2⟩ := hQ2
  have N2 := Fr.app N1 Nq2
  refine own_st st2 ?_
  have e2 : T2.heap = h0 := eh02.trans eh2
  show own_Gl _ _ _ _ _ _ _ (T2.setTop (mkF m 10 #[.val (.ref a), .val (.int pk), .val (.int (own_at xs z pk))] [(.int (own_known (own_at xs z pk)))]))
  by_cases hc10 : (own_known (own_at xs z pk)) = (0 : Int32)
  · refine own_st (fun _ k => XS.ifNo X2.here hx rfl (hb hby own_d_method_7_code_10) rfl ((if0 _ _).trans (teq hc10).2) k) ?_
    show own_Gl _ _ _ _ _ _ _ (T2.setTop (mkF m 13 #[.val (.ref a), .val (.int pk), .val (.int (own_at xs z pk))] []))
    refine own_st (fun _ k => XS.iconst X2.here hx rfl (hb hby own_d_method_7_code_13) k) ?_
    show own_Gl _ _ _ _ _ _ _ (T2.setTop (mkF m 14 #[.val (.ref a), .val (.int pk), .val (.int (own_at xs z pk))] [(.int (0 : Int32))]))
    exact own_retI X2 hx hlk hret (hb hby own_d_method_7_code_14) e2 ⟨by rw [own_change, if_pos hc10] <;> rfl, N2, rfl⟩ (by decide) (by decide)
  · refine own_st (fun _ k => XS.ifYes X2.here hx rfl (pc0 := 10) (pc' := 15) rfl (hb hby own_d_method_7_code_10) rfl ((if0 _ _).trans (feq hc10).2) (by decide) (by decide) k) ?_
    show own_Gl _ _ _ _ _ _ _ (T2.setTop (mkF m 15 #[.val (.ref a), .val (.int pk), .val (.int (own_at xs z pk))] []))
    refine own_st (fun _ k => XS.aloadN X2.here hx rfl (hb hby own_d_method_7_code_15) rfl rfl k) ?_
    show own_Gl _ _ _ _ _ _ _ (T2.setTop (mkF m 16 #[.val (.ref a), .val (.int pk), .val (.int (own_at xs z pk))] [(.ref a)]))
    refine own_st (fun _ k => XS.iloadN X2.here hx rfl (hb hby own_d_method_7_code_16) rfl k) ?_
    show own_Gl _ _ _ _ _ _ _ (T2.setTop (mkF m 17 #[.val (.ref a), .val (.int pk), .val (.int (own_at xs z pk))] [(.int pk), (.ref a)]))
    refine own_st (fun _ k => XS.iconst X2.here hx rfl (hb hby own_d_method_7_code_17) k) ?_
    show own_Gl _ _ _ _ _ _ _ (T2.setTop (mkF m 18 #[.val (.ref a), .val (.int pk), .val (.int (own_at xs z pk))] [(.int (-1 : Int32)), (.int pk), (.ref a)]))
    refine own_st (fun _ k => XS.iconst X2.here hx rfl (hb hby own_d_method_7_code_18) k) ?_
    show own_Gl _ _ _ _ _ _ _ (T2.setTop (mkF m 19 #[.val (.ref a), .val (.int pk), .val (.int (own_at xs z pk))] [(.int (1 : Int32)), (.int (-1 : Int32)), (.int pk), (.ref a)]))
    obtain ⟨_, _, ⟨T3, L3, k3, n3⟩, -, X3, ⟨Lc3, hQ3, l3, y3, z3⟩, st3⟩ := Jvm.LawKit.callS X2 hx (y := (⟨"org/benli/core/BernsteinSignChangesPinLaw", "near", "([IIIZ)I"⟩ : MethodName)) hown (mvT hZ (hw _ (List.mem_of_getElem? (i := 25) rfl))) (mvT hZ (hw _ (List.mem_of_getElem? (i := 26) rfl))) (mvT hZ (hw _ (List.mem_of_getElem? (i := 8) rfl))) (mvT hZ (hw _ (List.mem_of_getElem? (i := 27) rfl))) (by decide) (backOf (W := 0) (own_r_near l Z a0 hw [] a k z xs pk (-1 : Int32) (1 : Int32) h0 n0 Z0 V_a) hZ (hw _ (List.mem_of_getElem? (i := 27) rfl)) (hw _ (List.mem_of_getElem? (i := 8) rfl)) (by decide) (by decide)) (g := (mkF m 19 #[.val (.ref a), .val (.int pk), .val (.int (own_at xs z pk))] [(.int (1 : Int32)), (.int (-1 : Int32)), (.int pk), (.ref a)])) rfl (by rw [hml]; rfl) (argsL := [(.ref a), (.int pk), (.int (-1 : Int32)), (.int (1 : Int32))]) (rest := []) (lenOf own_pd939061344 rfl) rfl (by show 2 * 0 + _ ≤ _; exact Nat.le_of_eq rfl) (hb hby own_d_method_7_code_19) (fun _ _ => ⟨rfl, e2, (by decide : 0 + 0 ≤ ({ frames := 2, cells := 0, slots := 0, locals := 29 } : Room).cells), (by decide : 0 + 0 ≤ ({ frames := 2, cells := 0, slots := 0, locals := 29 } : Room).slots)⟩)
    dsimp only [Pt.U, Pt.locs, Pt.cells, Pt.slots] at X3 l3 y3 z3 st3 hQ3
    subst l3 y3 z3
    obtain ⟨hh3, eh03⟩ : ∃ z, T3.heap = z := ⟨_, rfl⟩
    rw [eh03] at hQ3
    obtain ⟨rfl, Nq3, eh3⟩ := hQ3
    have N3 := Fr.app N2 Nq3
    refine own_st st3 ?_
    have e3 : T3.heap = h0 := eh03.trans eh3
    show own_Gl _ _ _ _ _ _ _ (T3.setTop (mkF m 22 #[.val (.ref a), .val (.int pk), .val (.int (own_at xs z pk))] [(.int (own_near xs z pk (-1 : Int32) (1 : Int32)))]))
    refine own_st (fun _ k => XS.iloadN X3.here hx rfl (hb hby own_d_method_7_code_22) rfl k) ?_
    show own_Gl _ _ _ _ _ _ _ (T3.setTop (mkF m 23 #[.val (.ref a), .val (.int pk), .val (.int (own_at xs z pk))] [(.int (own_at xs z pk)), (.int (own_near xs z pk (-1 : Int32) (1 : Int32)))]))
    refine own_st (fun _ k => XS.ineg X3.here hx rfl (hb hby own_d_method_7_code_23) rfl k) ?_
    show own_Gl _ _ _ _ _ _ _ (T3.setTop (mkF m 24 #[.val (.ref a), .val (.int pk), .val (.int (own_at xs z pk))] [(.int (-(own_at xs z pk))), (.int (own_near xs z pk (-1 : Int32) (1 : Int32)))]))
    by_cases hc24 : (own_near xs z pk (-1 : Int32) (1 : Int32)) = (-(own_at xs z pk))
    · refine own_st (fun _ k => XS.icmpNo X3.here hx rfl (hb hby own_d_method_7_code_24) rfl (teq hc24).2 k) ?_
      show own_Gl _ _ _ _ _ _ _ (T3.setTop (mkF m 27 #[.val (.ref a), .val (.int pk), .val (.int (own_at xs z pk))] []))
      refine own_st (fun _ k => XS.iconst X3.here hx rfl (hb hby own_d_method_7_code_27) k) ?_
      show own_Gl _ _ _ _ _ _ _ (T3.setTop (mkF m 28 #[.val (.ref a), .val (.int pk), .val (.int (own_at xs z pk))] [(.int (1 : Int32))]))
      refine own_st (fun _ k => XS.goto X3.here hx rfl (pc0 := 28) (pc' := 32) rfl (hb hby own_d_method_7_code_28) (by decide) (by decide) k) ?_
      show own_Gl _ _ _ _ _ _ _ (T3.setTop (mkF m 32 #[.val (.ref a), .val (.int pk), .val (.int (own_at xs z pk))] [(.int (1 : Int32))]))
      exact own_retI X3 hx hlk hret (hb hby own_d_method_7_code_32) e3 ⟨by rw [own_change, if_neg hc10, if_pos hc24] <;> rfl, N3, rfl⟩ (by decide) (by decide)
    · refine own_st (fun _ k => XS.icmpYes X3.here hx rfl (pc0 := 24) (pc' := 31) rfl (hb hby own_d_method_7_code_24) rfl (feq hc24).2 (by decide) (by decide) k) ?_
      show own_Gl _ _ _ _ _ _ _ (T3.setTop (mkF m 31 #[.val (.ref a), .val (.int pk), .val (.int (own_at xs z pk))] []))
      refine own_st (fun _ k => XS.iconst X3.here hx rfl (hb hby own_d_method_7_code_31) k) ?_
      show own_Gl _ _ _ _ _ _ _ (T3.setTop (mkF m 32 #[.val (.ref a), .val (.int pk), .val (.int (own_at xs z pk))] [(.int (0 : Int32))]))
      exact own_retI X3 hx hlk hret (hb hby own_d_method_7_code_32) e3 ⟨by rw [own_change, if_neg hc10, if_neg hc24] <;> rfl, N3, rfl⟩ (by decide) (by decide)
theorem own_d_prog_23_method_4_code_0 : decode prog_23_method_4_code 0 = .ok (.iconst 0, 1) := by decide +kernel
theorem own_d_prog_23_method_4_code_1 : decode prog_23_method_4_code 1 = .ok (.istore_n 1, 1) := by decide +kernel
theorem own_d_prog_23_method_4_code_2 : decode prog_23_method_4_code 2 = .ok (.iconst 0, 1) := by decide +kernel
theorem own_d_prog_23_method_4_code_3 : decode prog_23_method_4_code 3 = .ok (.istore_n 2, 1) := by decide +kernel
theorem own_d_prog_23_method_4_code_4 : decode prog_23_method_4_code 4 = .ok (.iconst 0, 1) := by decide +kernel
theorem own_d_prog_23_method_4_code_5 : decode prog_23_method_4_code 5 = .ok (.istore_n 3, 1) := by decide +kernel
theorem own_d_prog_23_method_4_code_6 : decode prog_23_method_4_code 6 = .ok (.aload_n 0, 1) := by decide +kernel
theorem own_d_prog_23_method_4_code_7 : decode prog_23_method_4_code 7 = .ok (.astore 4, 2) := by decide +kernel
theorem own_d_prog_23_method_4_code_9 : decode prog_23_method_4_code 9 = .ok (.aload 4, 2) := by decide +kernel
theorem own_d_prog_23_method_4_code_11 : decode prog_23_method_4_code 11 = .ok (.arraylength, 1) := by decide +kernel
theorem own_d_prog_23_method_4_code_12 : decode prog_23_method_4_code 12 = .ok (.istore 5, 2) := by decide +kernel
theorem own_d_prog_23_method_4_code_87 : decode prog_23_method_4_code 87 = .ok (.iinc 6 1, 3) := by decide +kernel
theorem own_d_prog_23_method_4_code_90 : decode prog_23_method_4_code 90 = .ok (.goto (-73), 3) := by decide +kernel
theorem own_d_prog_23_method_4_code_17 : decode prog_23_method_4_code 17 = .ok (.iload 6, 2) := by decide +kernel
theorem own_d_prog_23_method_4_code_19 : decode prog_23_method_4_code 19 = .ok (.iload 5, 2) := by decide +kernel
theorem own_d_prog_23_method_4_code_21 : decode prog_23_method_4_code 21 = .ok (.if_icmp .ge 72, 3) := by decide +kernel
theorem own_d_prog_23_method_4_code_24 : decode prog_23_method_4_code 24 = .ok (.aload 4, 2) := by decide +kernel
theorem own_d_prog_23_method_4_code_26 : decode prog_23_method_4_code 26 = .ok (.iload 6, 2) := by decide +kernel
theorem own_d_prog_23_method_4_code_28 : decode prog_23_method_4_code 28 = .ok (.iaload, 1) := by decide +kernel
theorem own_d_prog_23_method_4_code_29 : decode prog_23_method_4_code 29 = .ok (.istore 7, 2) := by decide +kernel
theorem own_d_prog_23_method_4_code_31 : decode prog_23_method_4_code 31 = .ok (.iload 7, 2) := by decide +kernel
theorem own_d_prog_23_method_4_code_33 : decode prog_23_method_4_code 33 = .ok (.iconst 2, 1) := by decide +kernel
theorem own_d_prog_23_method_4_code_34 : decode prog_23_method_4_code 34 = .ok (.if_icmp .ne 9, 3) := by decide +kernel
theorem own_d_prog_23_method_4_code_37 : decode prog_23_method_4_code 37 = .ok (.iinc 3 1, 3) := by decide +kernel
theorem own_d_prog_23_method_4_code_40 : decode prog_23_method_4_code 40 = .ok (.goto 47, 3) := by decide +kernel
theorem own_d_prog_23_method_4_code_43 : decode prog_23_method_4_code 43 = .ok (.iload 7, 2) := by decide +kernel
theorem own_d_prog_23_method_4_code_45 : decode prog_23_method_4_code 45 = .ok (.ifCond .eq 42, 3) := by decide +kernel
theorem own_d_prog_23_method_4_code_48 : decode prog_23_method_4_code 48 = .ok (.iload_n 3, 1) := by decide +kernel
theorem own_d_prog_23_method_4_code_49 : decode prog_23_method_4_code 49 = .ok (.ifCond .le 20, 3) := by decide +kernel
theorem own_d_prog_23_method_4_code_52 : decode prog_23_method_4_code 52 = .ok (.iload_n 2, 1) := by decide +kernel
theorem own_d_prog_23_method_4_code_53 : decode prog_23_method_4_code 53 = .ok (.ifCond .eq 14, 3) := by decide +kernel
theorem own_d_prog_23_method_4_code_67 : decode prog_23_method_4_code 67 = .ok (.iconst (-1), 1) := by decide +kernel
theorem own_d_prog_23_method_4_code_68 : decode prog_23_method_4_code 68 = .ok (.ireturn, 1) := by decide +kernel
theorem own_d_prog_23_method_4_code_56 : decode prog_23_method_4_code 56 = .ok (.iload_n 2, 1) := by decide +kernel
theorem own_d_prog_23_method_4_code_57 : decode prog_23_method_4_code 57 = .ok (.iload 7, 2) := by decide +kernel
theorem own_d_prog_23_method_4_code_59 : decode prog_23_method_4_code 59 = .ok (.if_icmp .eq 8, 3) := by decide +kernel
theorem own_d_prog_23_method_4_code_62 : decode prog_23_method_4_code 62 = .ok (.iload_n 3, 1) := by decide +kernel
theorem own_d_prog_23_method_4_code_63 : decode prog_23_method_4_code 63 = .ok (.iconst 1, 1) := by decide +kernel
theorem own_d_prog_23_method_4_code_64 : decode prog_23_method_4_code 64 = .ok (.if_icmp .le 5, 3) := by decide +kernel
theorem own_d_prog_23_method_4_code_69 : decode prog_23_method_4_code 69 = .ok (.iload_n 2, 1) := by decide +kernel
theorem own_d_prog_23_method_4_code_70 : decode prog_23_method_4_code 70 = .ok (.ifCond .eq 12, 3) := by decide +kernel
theorem own_d_prog_23_method_4_code_82 : decode prog_23_method_4_code 82 = .ok (.iload 7, 2) := by decide +kernel
theorem own_d_prog_23_method_4_code_84 : decode prog_23_method_4_code 84 = .ok (.istore_n 2, 1) := by decide +kernel
theorem own_d_prog_23_method_4_code_85 : decode prog_23_method_4_code 85 = .ok (.iconst 0, 1) := by decide +kernel
theorem own_d_prog_23_method_4_code_86 : decode prog_23_method_4_code 86 = .ok (.istore_n 3, 1) := by decide +kernel
theorem own_d_prog_23_method_4_code_73 : decode prog_23_method_4_code 73 = .ok (.iload 7, 2) := by decide +kernel
theorem own_d_prog_23_method_4_code_75 : decode prog_23_method_4_code 75 = .ok (.iload_n 2, 1) := by decide +kernel
theorem own_d_prog_23_method_4_code_76 : decode prog_23_method_4_code 76 = .ok (.if_icmp .eq 6, 3) := by decide +kernel
theorem own_d_prog_23_method_4_code_79 : decode prog_23_method_4_code 79 = .ok (.iinc 1 1, 3) := by decide +kernel
theorem own_d_prog_23_method_4_code_93 : decode prog_23_method_4_code 93 = .ok (.iload_n 3, 1) := by decide +kernel
theorem own_d_prog_23_method_4_code_94 : decode prog_23_method_4_code 94 = .ok (.ifCond .le 16, 3) := by decide +kernel
theorem own_d_prog_23_method_4_code_97 : decode prog_23_method_4_code 97 = .ok (.iload_n 2, 1) := by decide +kernel
theorem own_d_prog_23_method_4_code_98 : decode prog_23_method_4_code 98 = .ok (.ifCond .ne 8, 3) := by decide +kernel
theorem own_d_prog_23_method_4_code_101 : decode prog_23_method_4_code 101 = .ok (.iload_n 3, 1) := by decide +kernel
theorem own_d_prog_23_method_4_code_102 : decode prog_23_method_4_code 102 = .ok (.iconst 1, 1) := by decide +kernel
theorem own_d_prog_23_method_4_code_103 : decode prog_23_method_4_code 103 = .ok (.if_icmp .le 7, 3) := by decide +kernel
theorem own_d_prog_23_method_4_code_106 : decode prog_23_method_4_code 106 = .ok (.iconst (-1), 1) := by decide +kernel
theorem own_d_prog_23_method_4_code_107 : decode prog_23_method_4_code 107 = .ok (.goto 4, 3) := by decide +kernel
theorem own_d_prog_23_method_4_code_111 : decode prog_23_method_4_code 111 = .ok (.ireturn, 1) := by decide +kernel
theorem own_d_prog_23_method_4_code_110 : decode prog_23_method_4_code 110 = .ok (.iload_n 1, 1) := by decide +kernel
theorem own_d_prog_23_method_4_code_14 : decode prog_23_method_4_code 14 = .ok (.iconst 0, 1) := by decide +kernel
theorem own_d_prog_23_method_4_code_15 : decode prog_23_method_4_code 15 = .ok (.istore 6, 2) := by decide +kernel
theorem own_ef_own_r_sc (m : MethodId) (x0 : Addr) : entryFrame m #[(.ref x0)] 8 = mkF m 0 #[.val (.ref x0), .unset, .unset, .unset, .unset, .unset, .unset, .unset] [] := by first | (simp [entryFrame, mkF, argsToLocals, Value.category]; done) | rfl
def own_Q_own_r_sc (Z : State) (a : Addr) (k : ClassId) (z : Int32) (xs : List Int32) (h0 : Heap) (n0 : Nat) (v : Option Value) (h : Heap) (L : List Loc) : Prop := (v = some (.int (own_sc xs 0 0 0))) ∧ (Fr n0 L) ∧ (h = h0)
theorem own_pn686993396 : plainName "org/benli/core/Bernstein" = true := by first | (simp [plainName, overriddenIn]; done) | decide +kernel
set_option maxRecDepth 65536 in
set_option maxHeartbeats 40000000 in
theorem own_r_sc (l : Launch) (Z : State) (a0 : Array Value) (hw : ∀ d ∈ tables_1, d.before a0 Z = true) (ws : List Jvm.Cond) (a : Addr) (k : ClassId) (z : Int32) (xs : List Int32) (h0 : Heap) (n0 : Nat) (Z0 : n0 ≤ h0.size) (V_a : Arv Z h0 a k .int z (xs.map Value.int) (.int (0 : Int32))) (hz : z.toNatClampNeg = xs.length) :
    MetFree l (⟨"org/benli/core/Bernstein", "signChanges", "([I)I"⟩ : MethodName) (head1 (Jvm.Cond.code (⟨"org/benli/core/Bernstein", "signChanges", "([I)I"⟩ : MethodName) prog_23_method_4_code 8 (some .int) :: ws) ({ frames := 0, cells := 0, slots := 0, locals := 0 } : Room)) (fun xa xU => xa = #[(.ref a)] ∧ Z.Warmed39 xU.vm ∧ xU.heap = h0) (fun _ _ _ _ _ => True) (fun _ xU xo xV => ∃ v L, xo = .returned v ∧ own_Q_own_r_sc Z a k z xs h0 n0 v xV.heap L ∧ FrameEnd xU xo xV L ({ frames := 0, cells := 0, slots := 0, locals := 0 } : Room).cells ({ frames := 0, cells := 0, slots := 0, locals := 0 } : Room).slots) := by
  refine MetFree.of_bodySF (plainFor_of_name own_pn686993396) hisR ?_
  intro p e s m args below meth c s₁ Bd hml0 hP hK
  obtain ⟨rfl, hZ, hh⟩ := hP
  have hx := Bd.exec
  have hby := Bd.bytes
  have hlk := Bd.notSynchronized
  have hret := Bd.returns
  have hml : c.maxLocals = 8 := hml0
  have hown : s.vm.findClass "org/benli/core/Bernstein" = some m.cls := findClass_of_methodNamed Bd.named
  have hnm := (name_of_methodNamed Bd.named Bd.method).1
  have X0 : Stand p l e ({ frames := 0, cells := 0, slots := 0, locals := 0 } : Room) s m #[(.ref a)] below meth c s₁ [] 0 0 := Stand.of_body Bd
  have e0 : s₁.heap = h0 := by rw [← hh, Bd.state]; rfl
  have N0 := Fr.nil n0
  show own_Gl p e below s (own_Q_own_r_sc Z a k z xs h0 n0) ({ frames := 0, cells := 0, slots := 0, locals := 0 } : Room).cells ({ frames := 0, cells := 0, slots := 0, locals := 0 } : Room).slots _
  refine own_cast (own_ef_own_r_sc m a) ?_
  show own_Gl _ _ _ _ _ _ _ (s₁.setTop (mkF m 0 #[.val (.ref a), .unset, .unset, .unset, .unset, .unset, .unset, .unset] []))
  refine own_st (fun _ k => XS.iconst X0.here hx rfl (hb hby own_d_prog_23_method_4_code_0) k) ?_
  show own_Gl _ _ _ _ _ _ _ (s₁.setTop (mkF m 1 #[.val (.ref a), .unset, .unset, .unset, .unset, .unset, .unset, .unset] [(.int (0 : Int32))]))
  refine own_st (fun _ k => XS.istoreN X0.here hx rfl (hb hby own_d_prog_23_method_4_code_1) rfl (l' := #[.val (.ref a), .val (.int (0 : Int32)), .unset, .unset, .unset, .unset, .unset, .unset]) rfl k) ?_
  show own_Gl _ _ _ _ _ _ _ (s₁.setTop (mkF m 2 #[.val (.ref a), .val (.int (0 : Int32)), .unset, .unset, .unset, .unset, .unset, .unset] []))
  refine own_st (fun _ k => XS.iconst X0.here hx rfl (hb hby own_d_prog_23_method_4_code_2) k) ?_
  show own_Gl _ _ _ _ _ _ _ (s₁.setTop (mkF m 3 #[.val (.ref a), .val (.int (0 : Int32)), .unset, .unset, .unset, .unset, .unset, .unset] [(.int (0 : Int32))]))
  refine own_st (fun _ k => XS.istoreN X0.here hx rfl (hb hby own_d_prog_23_method_4_code_3) rfl (l' := #[.val (.ref a), .val (.int (0 : Int32)), .val (.int (0 : Int32)), .unset, .unset, .unset, .unset, .unset]) rfl k) ?_
  show own_Gl _ _ _ _ _ _ _ (s₁.setTop (mkF m 4 #[.val (.ref a), .val (.int (0 : Int32)), .val (.int (0 : Int32)), .unset, .unset, .unset, .unset, .unset] []))
  refine own_st (fun _ k => XS.iconst X0.here hx rfl (hb hby own_d_prog_23_method_4_code_4) k) ?_
  show own_Gl _ _ _ _ _ _ _ (s₁.setTop (mkF m 5 #[.val (.ref a), .val (.int (0 : Int32)), .val (.int (0 : Int32)), .unset, .unset, .unset, .unset, .unset] [(.int (0 : Int32))]))
  refine own_st (fun _ k => XS.istoreN X0.here hx rfl (hb hby own_d_prog_23_method_4_code_5) rfl (l' := #[.val (.ref a), .val (.int (0 : Int32)), .val (.int (0 : Int32)), .val (.int (0 : Int32)), .unset, .unset, .unset, .unset]) rfl k) ?_
  show own_Gl _ _ _ _ _ _ _ (s₁.setTop (mkF m 6 #[.val (.ref a), .val (.int (0 : Int32)), .val (.int (0 : Int32)), .val (.int (0 : Int32)), .unset, .unset, .unset, .unset] []))
  refine own_st (fun _ k => XS.aloadN X0.here hx rfl (hb hby own_d_prog_23_method_4_code_6) rfl rfl k) ?_
  show own_Gl _ _ _ _ _ _ _ (s₁.setTop (mkF m 7 #[.val (.ref a), .val (.int (0 : Int32)), .val (.int (0 : Int32)), .val (.int (0 : Int32)), .unset, .unset, .unset, .unset] [(.ref a)]))
  refine own_st (fun _ k => XS.astore X0.here hx rfl (hb hby own_d_prog_23_method_4_code_7) rfl rfl (l' := #[.val (.ref a), .val (.int (0 : Int32)), .val (.int (0 : Int32)), .val (.int (0 : Int32)), .val (.ref a), .unset, .unset, .unset]) rfl k) ?_
  show own_Gl _ _ _ _ _ _ _ (s₁.setTop (mkF m 9 #[.val (.ref a), .val (.int (0 : Int32)), .val (.int (0 : Int32)), .val (.int (0 : Int32)), .val (.ref a), .unset, .unset, .unset] []))
  refine own_st (fun _ k => XS.aload X0.here hx rfl (hb hby own_d_prog_23_method_4_code_9) rfl rfl k) ?_
  show own_Gl _ _ _ _ _ _ _ (s₁.setTop (mkF m 11 #[.val (.ref a), .val (.int (0 : Int32)), .val (.int (0 : Int32)), .val (.int (0 : Int32)), .val (.ref a), .unset, .unset, .unset] [(.ref a)]))
  obtain ⟨cl1, Ar1, qq1, Ss1, Nn1, Hh1, Gg1⟩ := id V_a
  refine own_st (X0.arraylength hx (by rw [e0]; exact Ar1.1) (State.isArrayOf_alike hZ.alike Ar1.2.1) (g := (mkF m 11 #[.val (.ref a), .val (.int (0 : Int32)), .val (.int (0 : Int32)), .val (.int (0 : Int32)), .val (.ref a), .unset, .unset, .unset] [(.ref a)])) rfl rfl (hb hby own_d_prog_23_method_4_code_11)) ?_
  rw [len_of Ss1 Nn1]
  show own_Gl _ _ _ _ _ _ _ (s₁.setTop (mkF m 12 #[.val (.ref a), .val (.int (0 : Int32)), .val (.int (0 : Int32)), .val (.int (0 : Int32)), .val (.ref a), .unset, .unset, .unset] [(.int z)]))
  refine own_st (fun _ k => XS.istore X0.here hx rfl (hb hby own_d_prog_23_method_4_code_12) rfl (l' := #[.val (.ref a), .val (.int (0 : Int32)), .val (.int (0 : Int32)), .val (.int (0 : Int32)), .val (.ref a), .val (.int z), .unset, .unset]) rfl k) ?_
  show own_Gl _ _ _ _ _ _ _ (s₁.setTop (mkF m 14 #[.val (.ref a), .val (.int (0 : Int32)), .val (.int (0 : Int32)), .val (.int (0 : Int32)), .val (.ref a), .val (.int z), .unset, .unset] []))
  have J87_2 : ∀ (k2 : Nat) (T2 : State) (LL2 : List Loc) (N2 : Fr n0 LL2) (X2 : Stand p l e ({ frames := 0, cells := 0, slots := 0, locals := 0 } : Room) s m #[(.ref a)] below meth c T2 LL2 0 0) (e2 : T2.heap = h0) (c1 : Int32) (l1 : Int32) (u1 : Int32) (i1 : Int32) (v1 : Int32) (hi0 : ¬ i1 < 0) (hiz : i1 < z) (hinv : own_sc (xs.drop (i1.toNatClampNeg + 1)) c1 l1 u1 = own_sc xs 0 0 0) (hk2 : z.toNatClampNeg - i1.toNatClampNeg = k2), own_Gl p e below s (own_Q_own_r_sc Z a k z xs h0 n0) ({ frames := 0, cells := 0, slots := 0, locals := 0 } : Room).cells ({ frames := 0, cells := 0, slots := 0, locals := 0 } : Room).slots (T2.setTop (mkF m 87 #[.val (.ref a), .val (.int c1), .val (.int l1), .val (.int u1), .val (.ref a), .val (.int z), .val (.int i1), .val (.int v1)] [])) := by
    intro k2
    induction k2 using Nat.strongRecOn with
    | _ k2 ih2 =>
      intro T2 LL2 N2 X2 e2 c1 l1 u1 i1 v1 hi0 hiz hinv hk2
      show own_Gl _ _ _ _ _ _ _ (T2.setTop (mkF m 87 #[.val (.ref a), .val (.int c1), .val (.int l1), .val (.int u1), .val (.ref a), .val (.int z), .val (.int i1), .val (.int v1)] []))
      refine own_st (fun _ k => XS.iinc X2.here hx rfl (hb hby own_d_prog_23_method_4_code_87) rfl (l' := #[.val (.ref a), .val (.int c1), .val (.int l1), .val (.int u1), .val (.ref a), .val (.int z), .val (.int (i1 + (1 : Int32))), .val (.int v1)]) rfl k) ?_
      show own_Gl _ _ _ _ _ _ _ (T2.setTop (mkF m 90 #[.val (.ref a), .val (.int c1), .val (.int l1), .val (.int u1), .val (.ref a), .val (.int z), .val (.int (i1 + (1 : Int32))), .val (.int v1)] []))
      refine own_st (fun _ k => XS.goto X2.here hx rfl (pc0 := 90) (pc' := 17) rfl (hb hby own_d_prog_23_method_4_code_90) (by decide) (by decide) k) ?_
      show own_Gl _ _ _ _ _ _ _ (T2.setTop (mkF m 17 #[.val (.ref a), .val (.int c1), .val (.int l1), .val (.int u1), .val (.ref a), .val (.int z), .val (.int (i1 + (1 : Int32))), .val (.int v1)] []))
      have hh0 : ¬ (i1 + (1 : Int32)) < 0 := (own_inc _ _ hi0 hiz).2
      have hhead : own_sc (xs.drop ((i1 + (1 : Int32))).toNatClampNeg) c1 l1 u1 = own_sc xs 0 0 0 := by rw [(own_inc _ _ hi0 hiz).1]; exact hinv
      refine own_st (fun _ k => XS.iload X2.here hx rfl (hb hby own_d_prog_23_method_4_code_17) rfl k) ?_
      show own_Gl _ _ _ _ _ _ _ (T2.setTop (mkF m 19 #[.val (.ref a), .val (.int c1), .val (.int l1), .val (.int u1), .val (.ref a), .val (.int z), .val (.int (i1 + (1 : Int32))), .val (.int v1)] [(.int (i1 + (1 : Int32)))]))
      refine own_st (fun _ k => XS.iload X2.here hx rfl (hb hby own_d_prog_23_method_4_code_19) rfl k) ?_
      show own_Gl _ _ _ _ _ _ _ (T2.setTop (mkF m 21 #[.val (.ref a), .val (.int c1), .val (.int l1), .val (.int u1), .val (.ref a), .val (.int z), .val (.int (i1 + (1 : Int32))), .val (.int v1)] [(.int z), (.int (i1 + (1 : Int32)))]))
      by_cases hc21 : (i1 + (1 : Int32)) < z
      · refine own_st (fun _ k => XS.icmpNo X2.here hx rfl (hb hby own_d_prog_23_method_4_code_21) rfl (tlt hc21).2.1 k) ?_
        show own_Gl _ _ _ _ _ _ _ (T2.setTop (mkF m 24 #[.val (.ref a), .val (.int c1), .val (.int l1), .val (.int u1), .val (.ref a), .val (.int z), .val (.int (i1 + (1 : Int32))), .val (.int v1)] []))
        refine own_st (fun _ k => XS.aload X2.here hx rfl (hb hby own_d_prog_23_method_4_code_24) rfl rfl k) ?_
        show own_Gl _ _ _ _ _ _ _ (T2.setTop (mkF m 26 #[.val (.ref a), .val (.int c1), .val (.int l1), .val (.int u1), .val (.ref a), .val (.int z), .val (.int (i1 + (1 : Int32))), .val (.int v1)] [(.ref a)]))
        refine own_st (fun _ k => XS.iload X2.here hx rfl (hb hby own_d_prog_23_method_4_code_26) rfl k) ?_
        show own_Gl _ _ _ _ _ _ _ (T2.setTop (mkF m 28 #[.val (.ref a), .val (.int c1), .val (.int l1), .val (.int u1), .val (.ref a), .val (.int z), .val (.int (i1 + (1 : Int32))), .val (.int v1)] [(.int (i1 + (1 : Int32))), (.ref a)]))
        obtain ⟨cl3, Ar3, qq3, Ss3, Nn3, Hh3, Gg3⟩ := id V_a
        have hin3 : ¬ ((i1 + (1 : Int32)) < 0 ∨ cl3.slots.size ≤ ((i1 + (1 : Int32))).toNatClampNeg) := inb_of Ss3 ⟨hh0, hc21⟩
        have hat3 : cl3.slots[((i1 + (1 : Int32))).toNatClampNeg]? = some (.int (xs.getD ((i1 + (1 : Int32))).toNatClampNeg 0)) := Hh3.at hin3 (own_getD xs _)
        refine own_st (X2.iaload hx (j := (i1 + (1 : Int32))) (v := (.int (xs.getD ((i1 + (1 : Int32))).toNatClampNeg 0))) (by rw [e2]; exact Ar3.1) (State.isArrayOf_alike hZ.alike Ar3.2.1) Ar3.2.2 hin3 hat3 (g := (mkF m 28 #[.val (.ref a), .val (.int c1), .val (.int l1), .val (.int u1), .val (.ref a), .val (.int z), .val (.int (i1 + (1 : Int32))), .val (.int v1)] [(.int (i1 + (1 : Int32))), (.ref a)])) rfl rfl (hb hby own_d_prog_23_method_4_code_28)) ?_
        show own_Gl _ _ _ _ _ _ _ (T2.setTop (mkF m 29 #[.val (.ref a), .val (.int c1), .val (.int l1), .val (.int u1), .val (.ref a), .val (.int z), .val (.int (i1 + (1 : Int32))), .val (.int v1)] [(.int (xs.getD ((i1 + (1 : Int32))).toNatClampNeg 0))]))
        refine own_st (fun _ k => XS.istore X2.here hx rfl (hb hby own_d_prog_23_method_4_code_29) rfl (l' := #[.val (.ref a), .val (.int c1), .val (.int l1), .val (.int u1), .val (.ref a), .val (.int z), .val (.int (i1 + (1 : Int32))), .val (.int (xs.getD ((i1 + (1 : Int32))).toNatClampNeg 0))]) rfl k) ?_
        show own_Gl _ _ _ _ _ _ _ (T2.setTop (mkF m 31 #[.val (.ref a), .val (.int c1), .val (.int l1), .val (.int u1), .val (.ref a), .val (.int z), .val (.int (i1 + (1 : Int32))), .val (.int (xs.getD ((i1 + (1 : Int32))).toNatClampNeg 0))] []))
        obtain ⟨v2, hv2⟩ : ∃ q, q = (xs.getD ((i1 + (1 : Int32))).toNatClampNeg 0) := ⟨_, rfl⟩
        rw [← hv2]
        have hcur : own_sc (v2 :: xs.drop (((i1 + (1 : Int32))).toNatClampNeg + 1)) c1 l1 u1 = own_sc xs 0 0 0 := by rw [hv2, ← own_drop xs _ (by rw [← hz]; exact own_lt hh0 hc21)]; exact hhead
        show own_Gl _ _ _ _ _ _ _ (T2.setTop (mkF m 31 #[.val (.ref a), .val (.int c1), .val (.int l1), .val (.int u1), .val (.ref a), .val (.int z), .val (.int (i1 + (1 : Int32))), .val (.int v2)] []))
        refine own_st (fun _ k => XS.iload X2.here hx rfl (hb hby own_d_prog_23_method_4_code_31) rfl k) ?_
        show own_Gl _ _ _ _ _ _ _ (T2.setTop (mkF m 33 #[.val (.ref a), .val (.int c1), .val (.int l1), .val (.int u1), .val (.ref a), .val (.int z), .val (.int (i1 + (1 : Int32))), .val (.int v2)] [(.int v2)]))
        refine own_st (fun _ k => XS.iconst X2.here hx rfl (hb hby own_d_prog_23_method_4_code_33) k) ?_
        show own_Gl _ _ _ _ _ _ _ (T2.setTop (mkF m 34 #[.val (.ref a), .val (.int c1), .val (.int l1), .val (.int u1), .val (.ref a), .val (.int z), .val (.int (i1 + (1 : Int32))), .val (.int v2)] [(.int (2 : Int32)), (.int v2)]))
        by_cases hc34 : v2 = (2 : Int32)
        · refine own_st (fun _ k => XS.icmpNo X2.here hx rfl (hb hby own_d_prog_23_method_4_code_34) rfl (teq hc34).2 k) ?_
          show own_Gl _ _ _ _ _ _ _ (T2.setTop (mkF m 37 #[.val (.ref a), .val (.int c1), .val (.int l1), .val (.int u1), .val (.ref a), .val (.int z), .val (.int (i1 + (1 : Int32))), .val (.int v2)] []))
          refine own_st (fun _ k => XS.iinc X2.here hx rfl (hb hby own_d_prog_23_method_4_code_37) rfl (l' := #[.val (.ref a), .val (.int c1), .val (.int l1), .val (.int (u1 + (1 : Int32))), .val (.ref a), .val (.int z), .val (.int (i1 + (1 : Int32))), .val (.int v2)]) rfl k) ?_
          show own_Gl _ _ _ _ _ _ _ (T2.setTop (mkF m 40 #[.val (.ref a), .val (.int c1), .val (.int l1), .val (.int (u1 + (1 : Int32))), .val (.ref a), .val (.int z), .val (.int (i1 + (1 : Int32))), .val (.int v2)] []))
          refine own_st (fun _ k => XS.goto X2.here hx rfl (pc0 := 40) (pc' := 87) rfl (hb hby own_d_prog_23_method_4_code_40) (by decide) (by decide) k) ?_
          show own_Gl _ _ _ _ _ _ _ (T2.setTop (mkF m 87 #[.val (.ref a), .val (.int c1), .val (.int l1), .val (.int (u1 + (1 : Int32))), .val (.ref a), .val (.int z), .val (.int (i1 + (1 : Int32))), .val (.int v2)] []))
          show own_Gl _ _ _ _ _ _ _ (T2.setTop (mkF m 87 #[.val (.ref a), .val (.int c1), .val (.int l1), .val (.int (u1 + (1 : Int32))), .val (.ref a), .val (.int z), .val (.int (i1 + (1 : Int32))), .val (.int v2)] []))
          exact ih2 _ (by rw [← hk2]; exact own_dec _ _ hi0 hiz) T2 _ N2 X2 e2 (c1) (l1) ((u1 + (1 : Int32))) ((i1 + (1 : Int32))) (v2) hh0 hc21 (by rw [← hcur, own_sc_cons, if_pos hc34] <;> rfl) rfl
        · refine own_st (fun _ k => XS.icmpYes X2.here hx rfl (pc0 := 34) (pc' := 43) rfl (hb hby own_d_prog_23_method_4_code_34) rfl (feq hc34).2 (by decide) (by decide) k) ?_
          show own_Gl _ _ _ _ _ _ _ (T2.setTop (mkF m 43 #[.val (.ref a), .val (.int c1), .val (.int l1), .val (.int u1), .val (.ref a), .val (.int z), .val (.int (i1 + (1 : Int32))), .val (.int v2)] []))
          refine own_st (fun _ k => XS.iload X2.here hx rfl (hb hby own_d_prog_23_method_4_code_43) rfl k) ?_
          show own_Gl _ _ _ _ _ _ _ (T2.setTop (mkF m 45 #[.val (.ref a), .val (.int c1), .val (.int l1), .val (.int u1), .val (.ref a), .val (.int z), .val (.int (i1 + (1 : Int32))), .val (.int v2)] [(.int v2)]))
          by_cases hc45 : v2 = (0 : Int32)
          · refine own_st (fun _ k => XS.ifYes X2.here hx rfl (pc0 := 45) (pc' := 87) rfl (hb hby own_d_prog_23_method_4_code_45) rfl ((if0 _ _).trans (teq hc45).1) (by decide) (by decide) k) ?_
            show own_Gl _ _ _ _ _ _ _ (T2.setTop (mkF m 87 #[.val (.ref a), .val (.int c1), .val (.int l1), .val (.int u1), .val (.ref a), .val (.int z), .val (.int (i1 + (1 : Int32))), .val (.int v2)] []))
            show own_Gl _ _ _ _ _ _ _ (T2.setTop (mkF m 87 #[.val (.ref a), .val (.int c1), .val (.int l1), .val (.int u1), .val (.ref a), .val (.int z), .val (.int (i1 + (1 : Int32))), .val (.int v2)] []))
            exact ih2 _ (by rw [← hk2]; exact own_dec _ _ hi0 hiz) T2 _ N2 X2 e2 (c1) (l1) (u1) ((i1 + (1 : Int32))) (v2) hh0 hc21 (by rw [← hcur, own_sc_cons, if_neg hc34, if_pos hc45] <;> rfl) rfl
          · refine own_st (fun _ k => XS.ifNo X2.here hx rfl (hb hby own_d_prog_23_method_4_code_45) rfl ((if0 _ _).trans (feq hc45).1) k) ?_
            show own_Gl _ _ _ _ _ _ _ (T2.setTop (mkF m 48 #[.val (.ref a), .val (.int c1), .val (.int l1), .val (.int u1), .val (.ref a), .val (.int z), .val (.int (i1 + (1 : Int32))), .val (.int v2)] []))
            refine own_st (fun _ k => XS.iloadN X2.here hx rfl (hb hby own_d_prog_23_method_4_code_48) rfl k) ?_
            show own_Gl _ _ _ _ _ _ _ (T2.setTop (mkF m 49 #[.val (.ref a), .val (.int c1), .val (.int l1), .val (.int u1), .val (.ref a), .val (.int z), .val (.int (i1 + (1 : Int32))), .val (.int v2)] [(.int u1)]))
            by_cases hc49 : (0 : Int32) < u1
            · refine own_st (fun _ k => XS.ifNo X2.here hx rfl (hb hby own_d_prog_23_method_4_code_49) rfl ((if0 _ _).trans (tlt hc49).2.2.2) k) ?_
              show own_Gl _ _ _ _ _ _ _ (T2.setTop (mkF m 52 #[.val (.ref a), .val (.int c1), .val (.int l1), .val (.int u1), .val (.ref a), .val (.int z), .val (.int (i1 + (1 : Int32))), .val (.int v2)] []))
              refine own_st (fun _ k => XS.iloadN X2.here hx rfl (hb hby own_d_prog_23_method_4_code_52) rfl k) ?_
              show own_Gl _ _ _ _ _ _ _ (T2.setTop (mkF m 53 #[.val (.ref a), .val (.int c1), .val (.int l1), .val (.int u1), .val (.ref a), .val (.int z), .val (.int (i1 + (1 : Int32))), .val (.int v2)] [(.int l1)]))
              by_cases hc53 : l1 = (0 : Int32)
              · refine own_st (fun _ k => XS.ifYes X2.here hx rfl (pc0 := 53) (pc' := 67) rfl (hb hby own_d_prog_23_method_4_code_53) rfl ((if0 _ _).trans (teq hc53).1) (by decide) (by decide) k) ?_
                show own_Gl _ _ _ _ _ _ _ (T2.setTop (mkF m 67 #[.val (.ref a), .val (.int c1), .val (.int l1), .val (.int u1), .val (.ref a), .val (.int z), .val (.int (i1 + (1 : Int32))), .val (.int v2)] []))
                refine own_st (fun _ k => XS.iconst X2.here hx rfl (hb hby own_d_prog_23_method_4_code_67) k) ?_
                show own_Gl _ _ _ _ _ _ _ (T2.setTop (mkF m 68 #[.val (.ref a), .val (.int c1), .val (.int l1), .val (.int u1), .val (.ref a), .val (.int z), .val (.int (i1 + (1 : Int32))), .val (.int v2)] [(.int (-1 : Int32))]))
                exact own_retI X2 hx hlk hret (hb hby own_d_prog_23_method_4_code_68) e2 ⟨by rw [← hcur, own_sc_cons, if_neg hc34, if_neg hc45, if_pos hc49, if_pos hc53] <;> rfl, N2, rfl⟩ (by decide) (by decide)
              · refine own_st (fun _ k => XS.ifNo X2.here hx rfl (hb hby own_d_prog_23_method_4_code_53) rfl ((if0 _ _).trans (feq hc53).1) k) ?_
                show own_Gl _ _ _ _ _ _ _ (T2.setTop (mkF m 56 #[.val (.ref a), .val (.int c1), .val (.int l1), .val (.int u1), .val (.ref a), .val (.int z), .val (.int (i1 + (1 : Int32))), .val (.int v2)] []))
                refine own_st (fun _ k => XS.iloadN X2.here hx rfl (hb hby own_d_prog_23_method_4_code_56) rfl k) ?_
                show own_Gl _ _ _ _ _ _ _ (T2.setTop (mkF m 57 #[.val (.ref a), .val (.int c1), .val (.int l1), .val (.int u1), .val (.ref a), .val (.int z), .val (.int (i1 + (1 : Int32))), .val (.int v2)] [(.int l1)]))
                refine own_st (fun _ k => XS.iload X2.here hx rfl (hb hby own_d_prog_23_method_4_code_57) rfl k) ?_
                show own_Gl _ _ _ _ _ _ _ (T2.setTop (mkF m 59 #[.val (.ref a), .val (.int c1), .val (.int l1), .val (.int u1), .val (.ref a), .val (.int z), .val (.int (i1 + (1 : Int32))), .val (.int v2)] [(.int v2), (.int l1)]))
                by_cases hc59 : l1 = v2
                · refine own_st (fun _ k => XS.icmpYes X2.here hx rfl (pc0 := 59) (pc' := 67) rfl (hb hby own_d_prog_23_method_4_code_59) rfl (teq hc59).1 (by decide) (by decide) k) ?_
                  show own_Gl _ _ _ _ _ _ _ (T2.setTop (mkF m 67 #[.val (.ref a), .val (.int c1), .val (.int l1), .val (.int u1), .val (.ref a), .val (.int z), .val (.int (i1 + (1 : Int32))), .val (.int v2)] []))
                  refine own_st (fun _ k => XS.iconst X2.here hx rfl (hb hby own_d_prog_23_method_4_code_67) k) ?_
                  show own_Gl _ _ _ _ _ _ _ (T2.setTop (mkF m 68 #[.val (.ref a), .val (.int c1), .val (.int l1), .val (.int u1), .val (.ref a), .val (.int z), .val (.int (i1 + (1 : Int32))), .val (.int v2)] [(.int (-1 : Int32))]))
                  exact own_retI X2 hx hlk hret (hb hby own_d_prog_23_method_4_code_68) e2 ⟨by rw [← hcur, own_sc_cons, if_neg hc34, if_neg hc45, if_pos hc49, if_neg hc53, if_pos hc59] <;> rfl, N2, rfl⟩ (by decide) (by decide)
                · refine own_st (fun _ k => XS.icmpNo X2.here hx rfl (hb hby own_d_prog_23_method_4_code_59) rfl (feq hc59).1 k) ?_
                  show own_Gl _ _ _ _ _ _ _ (T2.setTop (mkF m 62 #[.val (.ref a), .val (.int c1), .val (.int l1), .val (.int u1), .val (.ref a), .val (.int z), .val (.int (i1 + (1 : Int32))), .val (.int v2)] []))
                  refine own_st (fun _ k => XS.iloadN X2.here hx rfl (hb hby own_d_prog_23_method_4_code_62) rfl k) ?_
                  show own_Gl _ _ _ _ _ _ _ (T2.setTop (mkF m 63 #[.val (.ref a), .val (.int c1), .val (.int l1), .val (.int u1), .val (.ref a), .val (.int z), .val (.int (i1 + (1 : Int32))), .val (.int v2)] [(.int u1)]))
                  refine own_st (fun _ k => XS.iconst X2.here hx rfl (hb hby own_d_prog_23_method_4_code_63) k) ?_
                  show own_Gl _ _ _ _ _ _ _ (T2.setTop (mkF m 64 #[.val (.ref a), .val (.int c1), .val (.int l1), .val (.int u1), .val (.ref a), .val (.int z), .val (.int (i1 + (1 : Int32))), .val (.int v2)] [(.int (1 : Int32)), (.int u1)]))
                  by_cases hc64 : (1 : Int32) < u1
                  · refine own_st (fun _ k => XS.icmpNo X2.here hx rfl (hb hby own_d_prog_23_method_4_code_64) rfl (tlt hc64).2.2.2 k) ?_
                    show own_Gl _ _ _ _ _ _ _ (T2.setTop (mkF m 67 #[.val (.ref a), .val (.int c1), .val (.int l1), .val (.int u1), .val (.ref a), .val (.int z), .val (.int (i1 + (1 : Int32))), .val (.int v2)] []))
                    refine own_st (fun _ k => XS.iconst X2.here hx rfl (hb hby own_d_prog_23_method_4_code_67) k) ?_
                    show own_Gl _ _ _ _ _ _ _ (T2.setTop (mkF m 68 #[.val (.ref a), .val (.int c1), .val (.int l1), .val (.int u1), .val (.ref a), .val (.int z), .val (.int (i1 + (1 : Int32))), .val (.int v2)] [(.int (-1 : Int32))]))
                    exact own_retI X2 hx hlk hret (hb hby own_d_prog_23_method_4_code_68) e2 ⟨by rw [← hcur, own_sc_cons, if_neg hc34, if_neg hc45, if_pos hc49, if_neg hc53, if_neg hc59, if_pos hc64] <;> rfl, N2, rfl⟩ (by decide) (by decide)
                  · refine own_st (fun _ k => XS.icmpYes X2.here hx rfl (pc0 := 64) (pc' := 69) rfl (hb hby own_d_prog_23_method_4_code_64) rfl (flt hc64).2.2.2 (by decide) (by decide) k) ?_
                    show own_Gl _ _ _ _ _ _ _ (T2.setTop (mkF m 69 #[.val (.ref a), .val (.int c1), .val (.int l1), .val (.int u1), .val (.ref a), .val (.int z), .val (.int (i1 + (1 : Int32))), .val (.int v2)] []))
                    refine own_st (fun _ k => XS.iloadN X2.here hx rfl (hb hby own_d_prog_23_method_4_code_69) rfl k) ?_
                    show own_Gl _ _ _ _ _ _ _ (T2.setTop (mkF m 70 #[.val (.ref a), .val (.int c1), .val (.int l1), .val (.int u1), .val (.ref a), .val (.int z), .val (.int (i1 + (1 : Int32))), .val (.int v2)] [(.int l1)]))
                    by_cases hc70 : l1 = (0 : Int32)
                    · refine own_st (fun _ k => XS.ifYes X2.here hx rfl (pc0 := 70) (pc' := 82) rfl (hb hby own_d_prog_23_method_4_code_70) rfl ((if0 _ _).trans (teq hc70).1) (by decide) (by decide) k) ?_
                      show own_Gl _ _ _ _ _ _ _ (T2.setTop (mkF m 82 #[.val (.ref a), .val (.int c1), .val (.int l1), .val (.int u1), .val (.ref a), .val (.int z), .val (.int (i1 + (1 : Int32))), .val (.int v2)] []))
                      refine own_st (fun _ k => XS.iload X2.here hx rfl (hb hby own_d_prog_23_method_4_code_82) rfl k) ?_
                      show own_Gl _ _ _ _ _ _ _ (T2.setTop (mkF m 84 #[.val (.ref a), .val (.int c1), .val (.int l1), .val (.int u1), .val (.ref a), .val (.int z), .val (.int (i1 + (1 : Int32))), .val (.int v2)] [(.int v2)]))
                      refine own_st (fun _ k => XS.istoreN X2.here hx rfl (hb hby own_d_prog_23_method_4_code_84) rfl (l' := #[.val (.ref a), .val (.int c1), .val (.int v2), .val (.int u1), .val (.ref a), .val (.int z), .val (.int (i1 + (1 : Int32))), .val (.int v2)]) rfl k) ?_
                      show own_Gl _ _ _ _ _ _ _ (T2.setTop (mkF m 85 #[.val (.ref a), .val (.int c1), .val (.int v2), .val (.int u1), .val (.ref a), .val (.int z), .val (.int (i1 + (1 : Int32))), .val (.int v2)] []))
                      refine own_st (fun _ k => XS.iconst X2.here hx rfl (hb hby own_d_prog_23_method_4_code_85) k) ?_
                      show own_Gl _ _ _ _ _ _ _ (T2.setTop (mkF m 86 #[.val (.ref a), .val (.int c1), .val (.int v2), .val (.int u1), .val (.ref a), .val (.int z), .val (.int (i1 + (1 : Int32))), .val (.int v2)] [(.int (0 : Int32))]))
                      refine own_st (fun _ k => XS.istoreN X2.here hx rfl (hb hby own_d_prog_23_method_4_code_86) rfl (l' := #[.val (.ref a), .val (.int c1), .val (.int v2), .val (.int (0 : Int32)), .val (.ref a), .val (.int z), .val (.int (i1 + (1 : Int32))), .val (.int v2)]) rfl k) ?_
                      show own_Gl _ _ _ _ _ _ _ (T2.setTop (mkF m 87 #[.val (.ref a), .val (.int c1), .val (.int v2), .val (.int (0 : Int32)), .val (.ref a), .val (.int z), .val (.int (i1 + (1 : Int32))), .val (.int v2)] []))
                      show own_Gl _ _ _ _ _ _ _ (T2.setTop (mkF m 87 #[.val (.ref a), .val (.int c1), .val (.int v2), .val (.int (0 : Int32)), .val (.ref a), .val (.int z), .val (.int (i1 + (1 : Int32))), .val (.int v2)] []))
                      exact ih2 _ (by rw [← hk2]; exact own_dec _ _ hi0 hiz) T2 _ N2 X2 e2 (c1) (v2) ((0 : Int32)) ((i1 + (1 : Int32))) (v2) hh0 hc21 (by rw [← hcur, own_sc_cons, if_neg hc34, if_neg hc45, if_pos hc49, if_neg hc53, if_neg hc59, if_neg hc64, if_pos hc70] <;> rfl) rfl
                    · refine own_st (fun _ k => XS.ifNo X2.here hx rfl (hb hby own_d_prog_23_method_4_code_70) rfl ((if0 _ _).trans (feq hc70).1) k) ?_
                      show own_Gl _ _ _ _ _ _ _ (T2.setTop (mkF m 73 #[.val (.ref a), .val (.int c1), .val (.int l1), .val (.int u1), .val (.ref a), .val (.int z), .val (.int (i1 + (1 : Int32))), .val (.int v2)] []))
                      refine own_st (fun _ k => XS.iload X2.here hx rfl (hb hby own_d_prog_23_method_4_code_73) rfl k) ?_
                      show own_Gl _ _ _ _ _ _ _ (T2.setTop (mkF m 75 #[.val (.ref a), .val (.int c1), .val (.int l1), .val (.int u1), .val (.ref a), .val (.int z), .val (.int (i1 + (1 : Int32))), .val (.int v2)] [(.int v2)]))
                      refine own_st (fun _ k => XS.iloadN X2.here hx rfl (hb hby own_d_prog_23_method_4_code_75) rfl k) ?_
                      show own_Gl _ _ _ _ _ _ _ (T2.setTop (mkF m 76 #[.val (.ref a), .val (.int c1), .val (.int l1), .val (.int u1), .val (.ref a), .val (.int z), .val (.int (i1 + (1 : Int32))), .val (.int v2)] [(.int l1), (.int v2)]))
                      by_cases hc76 : v2 = l1
                      · refine own_st (fun _ k => XS.icmpYes X2.here hx rfl (pc0 := 76) (pc' := 82) rfl (hb hby own_d_prog_23_method_4_code_76) rfl (teq hc76).1 (by decide) (by decide) k) ?_
                        show own_Gl _ _ _ _ _ _ _ (T2.setTop (mkF m 82 #[.val (.ref a), .val (.int c1), .val (.int l1), .val (.int u1), .val (.ref a), .val (.int z), .val (.int (i1 + (1 : Int32))), .val (.int v2)] []))
                        refine own_st (fun _ k => XS.iload X2.here hx rfl (hb hby own_d_prog_23_method_4_code_82) rfl k) ?_
                        show own_Gl _ _ _ _ _ _ _ (T2.setTop (mkF m 84 #[.val (.ref a), .val (.int c1), .val (.int l1), .val (.int u1), .val (.ref a), .val (.int z), .val (.int (i1 + (1 : Int32))), .val (.int v2)] [(.int v2)]))
                        refine own_st (fun _ k => XS.istoreN X2.here hx rfl (hb hby own_d_prog_23_method_4_code_84) rfl (l' := #[.val (.ref a), .val (.int c1), .val (.int v2), .val (.int u1), .val (.ref a), .val (.int z), .val (.int (i1 + (1 : Int32))), .val (.int v2)]) rfl k) ?_
                        show own_Gl _ _ _ _ _ _ _ (T2.setTop (mkF m 85 #[.val (.ref a), .val (.int c1), .val (.int v2), .val (.int u1), .val (.ref a), .val (.int z), .val (.int (i1 + (1 : Int32))), .val (.int v2)] []))
                        refine own_st (fun _ k => XS.iconst X2.here hx rfl (hb hby own_d_prog_23_method_4_code_85) k) ?_
                        show own_Gl _ _ _ _ _ _ _ (T2.setTop (mkF m 86 #[.val (.ref a), .val (.int c1), .val (.int v2), .val (.int u1), .val (.ref a), .val (.int z), .val (.int (i1 + (1 : Int32))), .val (.int v2)] [(.int (0 : Int32))]))
                        refine own_st (fun _ k => XS.istoreN X2.here hx rfl (hb hby own_d_prog_23_method_4_code_86) rfl (l' := #[.val (.ref a), .val (.int c1), .val (.int v2), .val (.int (0 : Int32)), .val (.ref a), .val (.int z), .val (.int (i1 + (1 : Int32))), .val (.int v2)]) rfl k) ?_
                        show own_Gl _ _ _ _ _ _ _ (T2.setTop (mkF m 87 #[.val (.ref a), .val (.int c1), .val (.int v2), .val (.int (0 : Int32)), .val (.ref a), .val (.int z), .val (.int (i1 + (1 : Int32))), .val (.int v2)] []))
                        show own_Gl _ _ _ _ _ _ _ (T2.setTop (mkF m 87 #[.val (.ref a), .val (.int c1), .val (.int v2), .val (.int (0 : Int32)), .val (.ref a), .val (.int z), .val (.int (i1 + (1 : Int32))), .val (.int v2)] []))
                        exact ih2 _ (by rw [← hk2]; exact own_dec _ _ hi0 hiz) T2 _ N2 X2 e2 (c1) (v2) ((0 : Int32)) ((i1 + (1 : Int32))) (v2) hh0 hc21 (by rw [← hcur, own_sc_cons, if_neg hc34, if_neg hc45, if_pos hc49, if_neg hc53, if_neg hc59, if_neg hc64, if_neg hc70, if_pos hc76] <;> rfl) rfl
                      · refine own_st (fun _ k => XS.icmpNo X2.here hx rfl (hb hby own_d_prog_23_method_4_code_76) rfl (feq hc76).1 k) ?_
                        show own_Gl _ _ _ _ _ _ _ (T2.setTop (mkF m 79 #[.val (.ref a), .val (.int c1), .val (.int l1), .val (.int u1), .val (.ref a), .val (.int z), .val (.int (i1 + (1 : Int32))), .val (.int v2)] []))
                        refine own_st (fun _ k => XS.iinc X2.here hx rfl (hb hby own_d_prog_23_method_4_code_79) rfl (l' := #[.val (.ref a), .val (.int (c1 + (1 : Int32))), .val (.int l1), .val (.int u1), .val (.ref a), .val (.int z), .val (.int (i1 + (1 : Int32))), .val (.int v2)]) rfl k) ?_
                        show own_Gl _ _ _ _ _ _ _ (T2.setTop (mkF m 82 #[.val (.ref a), .val (.int (c1 + (1 : Int32))), .val (.int l1), .val (.int u1), .val (.ref a), .val (.int z), .val (.int (i1 + (1 : Int32))), .val (.int v2)] []))
                        refine own_st (fun _ k => XS.iload X2.here hx rfl (hb hby own_d_prog_23_method_4_code_82) rfl k) ?_
                        show own_Gl _ _ _ _ _ _ _ (T2.setTop (mkF m 84 #[.val (.ref a), .val (.int (c1 + (1 : Int32))), .val (.int l1), .val (.int u1), .val (.ref a), .val (.int z), .val (.int (i1 + (1 : Int32))), .val (.int v2)] [(.int v2)]))
                        refine own_st (fun _ k => XS.istoreN X2.here hx rfl (hb hby own_d_prog_23_method_4_code_84) rfl (l' := #[.val (.ref a), .val (.int (c1 + (1 : Int32))), .val (.int v2), .val (.int u1), .val (.ref a), .val (.int z), .val (.int (i1 + (1 : Int32))), .val (.int v2)]) rfl k) ?_
                        show own_Gl _ _ _ _ _ _ _ (T2.setTop (mkF m 85 #[.val (.ref a), .val (.int (c1 + (1 : Int32))), .val (.int v2), .val (.int u1), .val (.ref a), .val (.int z), .val (.int (i1 + (1 : Int32))), .val (.int v2)] []))
                        refine own_st (fun _ k => XS.iconst X2.here hx rfl (hb hby own_d_prog_23_method_4_code_85) k) ?_
                        show own_Gl _ _ _ _ _ _ _ (T2.setTop (mkF m 86 #[.val (.ref a), .val (.int (c1 + (1 : Int32))), .val (.int v2), .val (.int u1), .val (.ref a), .val (.int z), .val (.int (i1 + (1 : Int32))), .val (.int v2)] [(.int (0 : Int32))]))
                        refine own_st (fun _ k => XS.istoreN X2.here hx rfl (hb hby own_d_prog_23_method_4_code_86) rfl (l' := #[.val (.ref a), .val (.int (c1 + (1 : Int32))), .val (.int v2), .val (.int (0 : Int32)), .val (.ref a), .val (.int z), .val (.int (i1 + (1 : Int32))), .val (.int v2)]) rfl k) ?_
                        show own_Gl _ _ _ _ _ _ _ (T2.setTop (mkF m 87 #[.val (.ref a), .val (.int (c1 + (1 : Int32))), .val (.int v2), .val (.int (0 : Int32)), .val (.ref a), .val (.int z), .val (.int (i1 + (1 : Int32))), .val (.int v2)] []))
                        show own_Gl _ _ _ _ _ _ _ (T2.setTop (mkF m 87 #[.val (.ref a), .val (.int (c1 + (1 : Int32))), .val (.int v2), .val (.int (0 : Int32)), .val (.ref a), .val (.int z), .val (.int (i1 + (1 : Int32))), .val (.int v2)] []))
                        exact ih2 _ (by rw [← hk2]; exact own_dec _ _ hi0 hiz) T2 _ N2 X2 e2 ((c1 + (1 : Int32))) (v2) ((0 : Int32)) ((i1 + (1 : Int32))) (v2) hh0 hc21 (by rw [← hcur, own_sc_cons, if_neg hc34, if_neg hc45, if_pos hc49, if_neg hc53, if_neg hc59, if_neg hc64, if_neg hc70, if_neg hc76] <;> rfl) rfl
            · refine own_st (fun _ k => XS.ifYes X2.here hx rfl (pc0 := 49) (pc' := 69) rfl (hb hby own_d_prog_23_method_4_code_49) rfl ((if0 _ _).trans (flt hc49).2.2.2) (by decide) (by decide) k) ?_
              show own_Gl _ _ _ _ _ _ _ (T2.setTop (mkF m 69 #[.val (.ref a), .val (.int c1), .val (.int l1), .val (.int u1), .val (.ref a), .val (.int z), .val (.int (i1 + (1 : Int32))), .val (.int v2)] []))
              refine own_st (fun _ k => XS.iloadN X2.here hx rfl (hb hby own_d_prog_23_method_4_code_69) rfl k) ?_
              show own_Gl _ _ _ _ _ _ _ (T2.setTop (mkF m 70 #[.val (.ref a), .val (.int c1), .val (.int l1), .val (.int u1), .val (.ref a), .val (.int z), .val (.int (i1 + (1 : Int32))), .val (.int v2)] [(.int l1)]))
              by_cases hc70 : l1 = (0 : Int32)
              · refine own_st (fun _ k => XS.ifYes X2.here hx rfl (pc0 := 70) (pc' := 82) rfl (hb hby own_d_prog_23_method_4_code_70) rfl ((if0 _ _).trans (teq hc70).1) (by decide) (by decide) k) ?_
                show own_Gl _ _ _ _ _ _ _ (T2.setTop (mkF m 82 #[.val (.ref a), .val (.int c1), .val (.int l1), .val (.int u1), .val (.ref a), .val (.int z), .val (.int (i1 + (1 : Int32))), .val (.int v2)] []))
                refine own_st (fun _ k => XS.iload X2.here hx rfl (hb hby own_d_prog_23_method_4_code_82) rfl k) ?_
                show own_Gl _ _ _ _ _ _ _ (T2.setTop (mkF m 84 #[.val (.ref a), .val (.int c1), .val (.int l1), .val (.int u1), .val (.ref a), .val (.int z), .val (.int (i1 + (1 : Int32))), .val (.int v2)] [(.int v2)]))
                refine own_st (fun _ k => XS.istoreN X2.here hx rfl (hb hby own_d_prog_23_method_4_code_84) rfl (l' := #[.val (.ref a), .val (.int c1), .val (.int v2), .val (.int u1), .val (.ref a), .val (.int z), .val (.int (i1 + (1 : Int32))), .val (.int v2)]) rfl k) ?_
                show own_Gl _ _ _ _ _ _ _ (T2.setTop (mkF m 85 #[.val (.ref a), .val (.int c1), .val (.int v2), .val (.int u1), .val (.ref a), .val (.int z), .val (.int (i1 + (1 : Int32))), .val (.int v2)] []))
                refine own_st (fun _ k => XS.iconst X2.here hx rfl (hb hby own_d_prog_23_method_4_code_85) k) ?_
                show own_Gl _ _ _ _ _ _ _ (T2.setTop (mkF m 86 #[.val (.ref a), .val (.int c1), .val (.int v2), .val (.int u1), .val (.ref a), .val (.int z), .val (.int (i1 + (1 : Int32))), .val (.int v2)] [(.int (0 : Int32))]))
                refine own_st (fun _ k => XS.istoreN X2.here hx rfl (hb hby own_d_prog_23_method_4_code_86) rfl (l' := #[.val (.ref a), .val (.int c1), .val (.int v2), .val (.int (0 : Int32)), .val (.ref a), .val (.int z), .val (.int (i1 + (1 : Int32))), .val (.int v2)]) rfl k) ?_
                show own_Gl _ _ _ _ _ _ _ (T2.setTop (mkF m 87 #[.val (.ref a), .val (.int c1), .val (.int v2), .val (.int (0 : Int32)), .val (.ref a), .val (.int z), .val (.int (i1 + (1 : Int32))), .val (.int v2)] []))
                show own_Gl _ _ _ _ _ _ _ (T2.setTop (mkF m 87 #[.val (.ref a), .val (.int c1), .val (.int v2), .val (.int (0 : Int32)), .val (.ref a), .val (.int z), .val (.int (i1 + (1 : Int32))), .val (.int v2)] []))
                exact ih2 _ (by rw [← hk2]; exact own_dec _ _ hi0 hiz) T2 _ N2 X2 e2 (c1) (v2) ((0 : Int32)) ((i1 + (1 : Int32))) (v2) hh0 hc21 (by rw [← hcur, own_sc_cons, if_neg hc34, if_neg hc45, if_neg hc49, if_pos hc70] <;> rfl) rfl
              · refine own_st (fun _ k => XS.ifNo X2.here hx rfl (hb hby own_d_prog_23_method_4_code_70) rfl ((if0 _ _).trans (feq hc70).1) k) ?_
                show own_Gl _ _ _ _ _ _ _ (T2.setTop (mkF m 73 #[.val (.ref a), .val (.int c1), .val (.int l1), .val (.int u1), .val (.ref a), .val (.int z), .val (.int (i1 + (1 : Int32))), .val (.int v2)] []))
                refine own_st (fun _ k => XS.iload X2.here hx rfl (hb hby own_d_prog_23_method_4_code_73) rfl k) ?_
                show own_Gl _ _ _ _ _ _ _ (T2.setTop (mkF m 75 #[.val (.ref a), .val (.int c1), .val (.int l1), .val (.int u1), .val (.ref a), .val (.int z), .val (.int (i1 + (1 : Int32))), .val (.int v2)] [(.int v2)]))
                refine own_st (fun _ k => XS.iloadN X2.here hx rfl (hb hby own_d_prog_23_method_4_code_75) rfl k) ?_
                show own_Gl _ _ _ _ _ _ _ (T2.setTop (mkF m 76 #[.val (.ref a), .val (.int c1), .val (.int l1), .val (.int u1), .val (.ref a), .val (.int z), .val (.int (i1 + (1 : Int32))), .val (.int v2)] [(.int l1), (.int v2)]))
                by_cases hc76 : v2 = l1
                · refine own_st (fun _ k => XS.icmpYes X2.here hx rfl (pc0 := 76) (pc' := 82) rfl (hb hby own_d_prog_23_method_4_code_76) rfl (teq hc76).1 (by decide) (by decide) k) ?_
                  show own_Gl _ _ _ _ _ _ _ (T2.setTop (mkF m 82 #[.val (.ref a), .val (.int c1), .val (.int l1), .val (.int u1), .val (.ref a), .val (.int z), .val (.int (i1 + (1 : Int32))), .val (.int v2)] []))
                  refine own_st (fun _ k => XS.iload X2.here hx rfl (hb hby own_d_prog_23_method_4_code_82) rfl k) ?_
                  show own_Gl _ _ _ _ _ _ _ (T2.setTop (mkF m 84 #[.val (.ref a), .val (.int c1), .val (.int l1), .val (.int u1), .val (.ref a), .val (.int z), .val (.int (i1 + (1 : Int32))), .val (.int v2)] [(.int v2)]))
                  refine own_st (fun _ k => XS.istoreN X2.here hx rfl (hb hby own_d_prog_23_method_4_code_84) rfl (l' := #[.val (.ref a), .val (.int c1), .val (.int v2), .val (.int u1), .val (.ref a), .val (.int z), .val (.int (i1 + (1 : Int32))), .val (.int v2)]) rfl k) ?_
                  show own_Gl _ _ _ _ _ _ _ (T2.setTop (mkF m 85 #[.val (.ref a), .val (.int c1), .val (.int v2), .val (.int u1), .val (.ref a), .val (.int z), .val (.int (i1 + (1 : Int32))), .val (.int v2)] []))
                  refine own_st (fun _ k => XS.iconst X2.here hx rfl (hb hby own_d_prog_23_method_4_code_85) k) ?_
                  show own_Gl _ _ _ _ _ _ _ (T2.setTop (mkF m 86 #[.val (.ref a), .val (.int c1), .val (.int v2), .val (.int u1), .val (.ref a), .val (.int z), .val (.int (i1 + (1 : Int32))), .val (.int v2)] [(.int (0 : Int32))]))
                  refine own_st (fun _ k => XS.istoreN X2.here hx rfl (hb hby own_d_prog_23_method_4_code_86) rfl (l' := #[.val (.ref a), .val (.int c1), .val (.int v2), .val (.int (0 : Int32)), .val (.ref a), .val (.int z), .val (.int (i1 + (1 : Int32))), .val (.int v2)]) rfl k) ?_
                  show own_Gl _ _ _ _ _ _ _ (T2.setTop (mkF m 87 #[.val (.ref a), .val (.int c1), .val (.int v2), .val (.int (0 : Int32)), .val (.ref a), .val (.int z), .val (.int (i1 + (1 : Int32))), .val (.int v2)] []))
                  show own_Gl _ _ _ _ _ _ _ (T2.setTop (mkF m 87 #[.val (.ref a), .val (.int c1), .val (.int v2), .val (.int (0 : Int32)), .val (.ref a), .val (.int z), .val (.int (i1 + (1 : Int32))), .val (.int v2)] []))
                  exact ih2 _ (by rw [← hk2]; exact own_dec _ _ hi0 hiz) T2 _ N2 X2 e2 (c1) (v2) ((0 : Int32)) ((i1 + (1 : Int32))) (v2) hh0 hc21 (by rw [← hcur, own_sc_cons, if_neg hc34, if_neg hc45, if_neg hc49, if_neg hc70, if_pos hc76] <;> rfl) rfl
                · refine own_st (fun _ k => XS.icmpNo X2.here hx rfl (hb hby own_d_prog_23_method_4_code_76) rfl (feq hc76).1 k) ?_
                  show own_Gl _ _ _ _ _ _ _ (T2.setTop (mkF m 79 #[.val (.ref a), .val (.int c1), .val (.int l1), .val (.int u1), .val (.ref a), .val (.int z), .val (.int (i1 + (1 : Int32))), .val (.int v2)] []))
                  refine own_st (fun _ k => XS.iinc X2.here hx rfl (hb hby own_d_prog_23_method_4_code_79) rfl (l' := #[.val (.ref a), .val (.int (c1 + (1 : Int32))), .val (.int l1), .val (.int u1), .val (.ref a), .val (.int z), .val (.int (i1 + (1 : Int32))), .val (.int v2)]) rfl k) ?_
                  show own_Gl _ _ _ _ _ _ _ (T2.setTop (mkF m 82 #[.val (.ref a), .val (.int (c1 + (1 : Int32))), .val (.int l1), .val (.int u1), .val (.ref a), .val (.int z), .val (.int (i1 + (1 : Int32))), .val (.int v2)] []))
                  refine own_st (fun _ k => XS.iload X2.here hx rfl (hb hby own_d_prog_23_method_4_code_82) rfl k) ?_
                  show own_Gl _ _ _ _ _ _ _ (T2.setTop (mkF m 84 #[.val (.ref a), .val (.int (c1 + (1 : Int32))), .val (.int l1), .val (.int u1), .val (.ref a), .val (.int z), .val (.int (i1 + (1 : Int32))), .val (.int v2)] [(.int v2)]))
                  refine own_st (fun _ k => XS.istoreN X2.here hx rfl (hb hby own_d_prog_23_method_4_code_84) rfl (l' := #[.val (.ref a), .val (.int (c1 + (1 : Int32))), .val (.int v2), .val (.int u1), .val (.ref a), .val (.int z), .val (.int (i1 + (1 : Int32))), .val (.int v2)]) rfl k) ?_
                  show own_Gl _ _ _ _ _ _ _ (T2.setTop (mkF m 85 #[.val (.ref a), .val (.int (c1 + (1 : Int32))), .val (.int v2), .val (.int u1), .val (.ref a), .val (.int z), .val (.int (i1 + (1 : Int32))), .val (.int v2)] []))
                  refine own_st (fun _ k => XS.iconst X2.here hx rfl (hb hby own_d_prog_23_method_4_code_85) k) ?_
                  show own_Gl _ _ _ _ _ _ _ (T2.setTop (mkF m 86 #[.val (.ref a), .val (.int (c1 + (1 : Int32))), .val (.int v2), .val (.int u1), .val (.ref a), .val (.int z), .val (.int (i1 + (1 : Int32))), .val (.int v2)] [(.int (0 : Int32))]))
                  refine own_st (fun _ k => XS.istoreN X2.here hx rfl (hb hby own_d_prog_23_method_4_code_86) rfl (l' := #[.val (.ref a), .val (.int (c1 + (1 : Int32))), .val (.int v2), .val (.int (0 : Int32)), .val (.ref a), .val (.int z), .val (.int (i1 + (1 : Int32))), .val (.int v2)]) rfl k) ?_
                  show own_Gl _ _ _ _ _ _ _ (T2.setTop (mkF m 87 #[.val (.ref a), .val (.int (c1 + (1 : Int32))), .val (.int v2), .val (.int (0 : Int32)), .val (.ref a), .val (.int z), .val (.int (i1 + (1 : Int32))), .val (.int v2)] []))
                  show own_Gl _ _ _ _ _ _ _ (T2.setTop (mkF m 87 #[.val (.ref a), .val (.int (c1 + (1 : Int32))), .val (.int v2), .val (.int (0 : Int32)), .val (.ref a), .val (.int z), .val (.int (i1 + (1 : Int32))), .val (.int v2)] []))
                  exact ih2 _ (by rw [← hk2]; exact own_dec _ _ hi0 hiz) T2 _ N2 X2 e2 ((c1 + (1 : Int32))) (v2) ((0 : Int32)) ((i1 + (1 : Int32))) (v2) hh0 hc21 (by rw [← hcur, own_sc_cons, if_neg hc34, if_neg hc45, if_neg hc49, if_neg hc70, if_neg hc76] <;> rfl) rfl
      · refine own_st (fun _ k => XS.icmpYes X2.here hx rfl (pc0 := 21) (pc' := 93) rfl (hb hby own_d_prog_23_method_4_code_21) rfl (flt hc21).2.1 (by decide) (by decide) k) ?_
        show own_Gl _ _ _ _ _ _ _ (T2.setTop (mkF m 93 #[.val (.ref a), .val (.int c1), .val (.int l1), .val (.int u1), .val (.ref a), .val (.int z), .val (.int (i1 + (1 : Int32))), .val (.int v1)] []))
        have hnil : own_sc [] c1 l1 u1 = own_sc xs 0 0 0 := by have q := hhead; rw [own_end xs z _ hz hh0 hc21] at q; exact q
        refine own_st (fun _ k => XS.iloadN X2.here hx rfl (hb hby own_d_prog_23_method_4_code_93) rfl k) ?_
        show own_Gl _ _ _ _ _ _ _ (T2.setTop (mkF m 94 #[.val (.ref a), .val (.int c1), .val (.int l1), .val (.int u1), .val (.ref a), .val (.int z), .val (.int (i1 + (1 : Int32))), .val (.int v1)] [(.int u1)]))
        by_cases hc94 : (0 : Int32) < u1
        · refine own_st (fun _ k => XS.ifNo X2.here hx rfl (hb hby own_d_prog_23_method_4_code_94) rfl ((if0 _ _).trans (tlt hc94).2.2.2) k) ?_
          show own_Gl _ _ _ _ _ _ _ (T2.setTop (mkF m 97 #[.val (.ref a), .val (.int c1), .val (.int l1), .val (.int u1), .val (.ref a), .val (.int z), .val (.int (i1 + (1 : Int32))), .val (.int v1)] []))
          refine own_st (fun _ k => XS.iloadN X2.here hx rfl (hb hby own_d_prog_23_method_4_code_97) rfl k) ?_
          show own_Gl _ _ _ _ _ _ _ (T2.setTop (mkF m 98 #[.val (.ref a), .val (.int c1), .val (.int l1), .val (.int u1), .val (.ref a), .val (.int z), .val (.int (i1 + (1 : Int32))), .val (.int v1)] [(.int l1)]))
          by_cases hc98 : l1 = (0 : Int32)
          · refine own_st (fun _ k => XS.ifNo X2.here hx rfl (hb hby own_d_prog_23_method_4_code_98) rfl ((if0 _ _).trans (teq hc98).2) k) ?_
            show own_Gl _ _ _ _ _ _ _ (T2.setTop (mkF m 101 #[.val (.ref a), .val (.int c1), .val (.int l1), .val (.int u1), .val (.ref a), .val (.int z), .val (.int (i1 + (1 : Int32))), .val (.int v1)] []))
            refine own_st (fun _ k => XS.iloadN X2.here hx rfl (hb hby own_d_prog_23_method_4_code_101) rfl k) ?_
            show own_Gl _ _ _ _ _ _ _ (T2.setTop (mkF m 102 #[.val (.ref a), .val (.int c1), .val (.int l1), .val (.int u1), .val (.ref a), .val (.int z), .val (.int (i1 + (1 : Int32))), .val (.int v1)] [(.int u1)]))
            refine own_st (fun _ k => XS.iconst X2.here hx rfl (hb hby own_d_prog_23_method_4_code_102) k) ?_
            show own_Gl _ _ _ _ _ _ _ (T2.setTop (mkF m 103 #[.val (.ref a), .val (.int c1), .val (.int l1), .val (.int u1), .val (.ref a), .val (.int z), .val (.int (i1 + (1 : Int32))), .val (.int v1)] [(.int (1 : Int32)), (.int u1)]))
            by_cases hc103 : (1 : Int32) < u1
            · refine own_st (fun _ k => XS.icmpNo X2.here hx rfl (hb hby own_d_prog_23_method_4_code_103) rfl (tlt hc103).2.2.2 k) ?_
              show own_Gl _ _ _ _ _ _ _ (T2.setTop (mkF m 106 #[.val (.ref a), .val (.int c1), .val (.int l1), .val (.int u1), .val (.ref a), .val (.int z), .val (.int (i1 + (1 : Int32))), .val (.int v1)] []))
              refine own_st (fun _ k => XS.iconst X2.here hx rfl (hb hby own_d_prog_23_method_4_code_106) k) ?_
              show own_Gl _ _ _ _ _ _ _ (T2.setTop (mkF m 107 #[.val (.ref a), .val (.int c1), .val (.int l1), .val (.int u1), .val (.ref a), .val (.int z), .val (.int (i1 + (1 : Int32))), .val (.int v1)] [(.int (-1 : Int32))]))
              refine own_st (fun _ k => XS.goto X2.here hx rfl (pc0 := 107) (pc' := 111) rfl (hb hby own_d_prog_23_method_4_code_107) (by decide) (by decide) k) ?_
              show own_Gl _ _ _ _ _ _ _ (T2.setTop (mkF m 111 #[.val (.ref a), .val (.int c1), .val (.int l1), .val (.int u1), .val (.ref a), .val (.int z), .val (.int (i1 + (1 : Int32))), .val (.int v1)] [(.int (-1 : Int32))]))
              exact own_retI X2 hx hlk hret (hb hby own_d_prog_23_method_4_code_111) e2 ⟨by rw [← hnil, own_sc_nil, if_pos hc94, if_pos hc98, if_pos hc103] <;> rfl, N2, rfl⟩ (by decide) (by decide)
            · refine own_st (fun _ k => XS.icmpYes X2.here hx rfl (pc0 := 103) (pc' := 110) rfl (hb hby own_d_prog_23_method_4_code_103) rfl (flt hc103).2.2.2 (by decide) (by decide) k) ?_
              show own_Gl _ _ _ _ _ _ _ (T2.setTop (mkF m 110 #[.val (.ref a), .val (.int c1), .val (.int l1), .val (.int u1), .val (.ref a), .val (.int z), .val (.int (i1 + (1 : Int32))), .val (.int v1)] []))
              refine own_st (fun _ k => XS.iloadN X2.here hx rfl (hb hby own_d_prog_23_method_4_code_110) rfl k) ?_
              show own_Gl _ _ _ _ _ _ _ (T2.setTop (mkF m 111 #[.val (.ref a), .val (.int c1), .val (.int l1), .val (.int u1), .val (.ref a), .val (.int z), .val (.int (i1 + (1 : Int32))), .val (.int v1)] [(.int c1)]))
              exact own_retI X2 hx hlk hret (hb hby own_d_prog_23_method_4_code_111) e2 ⟨by rw [← hnil, own_sc_nil, if_pos hc94, if_pos hc98, if_neg hc103] <;> rfl, N2, rfl⟩ (by decide) (by decide)
          · refine own_st (fun _ k => XS.ifYes X2.here hx rfl (pc0 := 98) (pc' := 106) rfl (hb hby own_d_prog_23_method_4_code_98) rfl ((if0 _ _).trans (feq hc98).2) (by decide) (by decide) k) ?_
            show own_Gl _ _ _ _ _ _ _ (T2.setTop (mkF m 106 #[.val (.ref a), .val (.int c1), .val (.int l1), .val (.int u1), .val (.ref a), .val (.int z), .val (.int (i1 + (1 : Int32))), .val (.int v1)] []))
            refine own_st (fun _ k => XS.iconst X2.here hx rfl (hb hby own_d_prog_23_method_4_code_106) k) ?_
            show own_Gl _ _ _ _ _ _ _ (T2.setTop (mkF m 107 #[.val (.ref a), .val (.int c1), .val (.int l1), .val (.int u1), .val (.ref a), .val (.int z), .val (.int (i1 + (1 : Int32))), .val (.int v1)] [(.int (-1 : Int32))]))
            refine own_st (fun _ k => XS.goto X2.here hx rfl (pc0 := 107) (pc' := 111) rfl (hb hby own_d_prog_23_method_4_code_107) (by decide) (by decide) k) ?_
            show own_Gl _ _ _ _ _ _ _ (T2.setTop (mkF m 111 #[.val (.ref a), .val (.int c1), .val (.int l1), .val (.int u1), .val (.ref a), .val (.int z), .val (.int (i1 + (1 : Int32))), .val (.int v1)] [(.int (-1 : Int32))]))
            exact own_retI X2 hx hlk hret (hb hby own_d_prog_23_method_4_code_111) e2 ⟨by rw [← hnil, own_sc_nil, if_pos hc94, if_neg hc98] <;> rfl, N2, rfl⟩ (by decide) (by decide)
        · refine own_st (fun _ k => XS.ifYes X2.here hx rfl (pc0 := 94) (pc' := 110) rfl (hb hby own_d_prog_23_method_4_code_94) rfl ((if0 _ _).trans (flt hc94).2.2.2) (by decide) (by decide) k) ?_
          show own_Gl _ _ _ _ _ _ _ (T2.setTop (mkF m 110 #[.val (.ref a), .val (.int c1), .val (.int l1), .val (.int u1), .val (.ref a), .val (.int z), .val (.int (i1 + (1 : Int32))), .val (.int v1)] []))
          refine own_st (fun _ k => XS.iloadN X2.here hx rfl (hb hby own_d_prog_23_method_4_code_110) rfl k) ?_
          show own_Gl _ _ _ _ _ _ _ (T2.setTop (mkF m 111 #[.val (.ref a), .val (.int c1), .val (.int l1), .val (.int u1), .val (.ref a), .val (.int z), .val (.int (i1 + (1 : Int32))), .val (.int v1)] [(.int c1)]))
          exact own_retI X2 hx hlk hret (hb hby own_d_prog_23_method_4_code_111) e2 ⟨by rw [← hnil, own_sc_nil, if_neg hc94] <;> rfl, N2, rfl⟩ (by decide) (by decide)
  refine own_st (fun _ k => XS.iconst X0.here hx rfl (hb hby own_d_prog_23_method_4_code_14) k) ?_
  show own_Gl _ _ _ _ _ _ _ (s₁.setTop (mkF m 15 #[.val (.ref a), .val (.int (0 : Int32)), .val (.int (0 : Int32)), .val (.int (0 : Int32)), .val (.ref a), .val (.int z), .unset, .unset] [(.int (0 : Int32))]))
  refine own_st (fun _ k => XS.istore X0.here hx rfl (hb hby own_d_prog_23_method_4_code_15) rfl (l' := #[.val (.ref a), .val (.int (0 : Int32)), .val (.int (0 : Int32)), .val (.int (0 : Int32)), .val (.ref a), .val (.int z), .val (.int (0 : Int32)), .unset]) rfl k) ?_
  show own_Gl _ _ _ _ _ _ _ (s₁.setTop (mkF m 17 #[.val (.ref a), .val (.int (0 : Int32)), .val (.int (0 : Int32)), .val (.int (0 : Int32)), .val (.ref a), .val (.int z), .val (.int (0 : Int32)), .unset] []))
  have hh0 : ¬ (0 : Int32) < 0 := by decide
  have hhead : own_sc (xs.drop ((0 : Int32)).toNatClampNeg) (0 : Int32) (0 : Int32) (0 : Int32) = own_sc xs 0 0 0 := rfl
  refine own_st (fun _ k => XS.iload X0.here hx rfl (hb hby own_d_prog_23_method_4_code_17) rfl k) ?_
  show own_Gl _ _ _ _ _ _ _ (s₁.setTop (mkF m 19 #[.val (.ref a), .val (.int (0 : Int32)), .val (.int (0 : Int32)), .val (.int (0 : Int32)), .val (.ref a), .val (.int z), .val (.int (0 : Int32)), .unset] [(.int (0 : Int32))]))
  refine own_st (fun _ k => XS.iload X0.here hx rfl (hb hby own_d_prog_23_method_4_code_19) rfl k) ?_
  show own_Gl _ _ _ _ _ _ _ (s₁.setTop (mkF m 21 #[.val (.ref a), .val (.int (0 : Int32)), .val (.int (0 : Int32)), .val (.int (0 : Int32)), .val (.ref a), .val (.int z), .val (.int (0 : Int32)), .unset] [(.int z), (.int (0 : Int32))]))
  by_cases hc21 : (0 : Int32) < z
  · refine own_st (fun _ k => XS.icmpNo X0.here hx rfl (hb hby own_d_prog_23_method_4_code_21) rfl (tlt hc21).2.1 k) ?_
    show own_Gl _ _ _ _ _ _ _ (s₁.setTop (mkF m 24 #[.val (.ref a), .val (.int (0 : Int32)), .val (.int (0 : Int32)), .val (.int (0 : Int32)), .val (.ref a), .val (.int z), .val (.int (0 : Int32)), .unset] []))
    refine own_st (fun _ k => XS.aload X0.here hx rfl (hb hby own_d_prog_23_method_4_code_24) rfl rfl k) ?_
    show own_Gl _ _ _ _ _ _ _ (s₁.setTop (mkF m 26 #[.val (.ref a), .val (.int (0 : Int32)), .val (.int (0 : Int32)), .val (.int (0 : Int32)), .val (.ref a), .val (.int z), .val (.int (0 : Int32)), .unset] [(.ref a)]))
    refine own_st (fun _ k => XS.iload X0.here hx rfl (hb hby own_d_prog_23_method_4_code_26) rfl k) ?_
    show own_Gl _ _ _ _ _ _ _ (s₁.setTop (mkF m 28 #[.val (.ref a), .val (.int (0 : Int32)), .val (.int (0 : Int32)), .val (.int (0 : Int32)), .val (.ref a), .val (.int z), .val (.int (0 : Int32)), .unset] [(.int (0 : Int32)), (.ref a)]))
    obtain ⟨cl4, Ar4, qq4, Ss4, Nn4, Hh4, Gg4⟩ := id V_a
    have hin4 : ¬ ((0 : Int32) < 0 ∨ cl4.slots.size ≤ ((0 : Int32)).toNatClampNeg) := inb_of Ss4 ⟨hh0, hc21⟩
    have hat4 : cl4.slots[((0 : Int32)).toNatClampNeg]? = some (.int (xs.getD ((0 : Int32)).toNatClampNeg 0)) := Hh4.at hin4 (own_getD xs _)
    refine own_st (X0.iaload hx (j := (0 : Int32)) (v := (.int (xs.getD ((0 : Int32)).toNatClampNeg 0))) (by rw [e0]; exact Ar4.1) (State.isArrayOf_alike hZ.alike Ar4.2.1) Ar4.2.2 hin4 hat4 (g := (mkF m 28 #[.val (.ref a), .val (.int (0 : Int32)), .val (.int (0 : Int32)), .val (.int (0 : Int32)), .val (.ref a), .val (.int z), .val (.int (0 : Int32)), .unset] [(.int (0 : Int32)), (.ref a)])) rfl rfl (hb hby own_d_prog_23_method_4_code_28)) ?_
    show own_Gl _ _ _ _ _ _ _ (s₁.setTop (mkF m 29 #[.val (.ref a), .val (.int (0 : Int32)), .val (.int (0 : Int32)), .val (.int (0 : Int32)), .val (.ref a), .val (.int z), .val (.int (0 : Int32)), .unset] [(.int (xs.getD ((0 : Int32)).toNatClampNeg 0))]))
    refine own_st (fun _ k => XS.istore X0.here hx rfl (hb hby own_d_prog_23_method_4_code_29) rfl (l' := #[.val (.ref a), .val (.int (0 : Int32)), .val (.int (0 : Int32)), .val (.int (0 : Int32)), .val (.ref a), .val (.int z), .val (.int (0 : Int32)), .val (.int (xs.getD ((0 : Int32)).toNatClampNeg 0))]) rfl k) ?_
    show own_Gl _ _ _ _ _ _ _ (s₁.setTop (mkF m 31 #[.val (.ref a), .val (.int (0 : Int32)), .val (.int (0 : Int32)), .val (.int (0 : Int32)), .val (.ref a), .val (.int z), .val (.int (0 : Int32)), .val (.int (xs.getD ((0 : Int32)).toNatClampNeg 0))] []))
    obtain ⟨v2, hv2⟩ : ∃ q, q = (xs.getD ((0 : Int32)).toNatClampNeg 0) := ⟨_, rfl⟩
    rw [← hv2]
    have hcur : own_sc (v2 :: xs.drop (((0 : Int32)).toNatClampNeg + 1)) (0 : Int32) (0 : Int32) (0 : Int32) = own_sc xs 0 0 0 := by rw [hv2, ← own_drop xs _ (by rw [← hz]; exact own_lt hh0 hc21)]; exact hhead
    show own_Gl _ _ _ _ _ _ _ (s₁.setTop (mkF m 31 #[.val (.ref a), .val (.int (0 : Int32)), .val (.int (0 : Int32)), .val (.int (0 : Int32)), .val (.ref a), .val (.int z), .val (.int (0 : Int32)), .val (.int v2)] []))
    refine own_st (fun _ k => XS.iload X0.here hx rfl (hb hby own_d_prog_23_method_4_code_31) rfl k) ?_
    show own_Gl _ _ _ _ _ _ _ (s₁.setTop (mkF m 33 #[.val (.ref a), .val (.int (0 : Int32)), .val (.int (0 : Int32)), .val (.int (0 : Int32)), .val (.ref a), .val (.int z), .val (.int (0 : Int32)), .val (.int v2)] [(.int v2)]))
    refine own_st (fun _ k => XS.iconst X0.here hx rfl (hb hby own_d_prog_23_method_4_code_33) k) ?_
    show own_Gl _ _ _ _ _ _ _ (s₁.setTop (mkF m 34 #[.val (.ref a), .val (.int (0 : Int32)), .val (.int (0 : Int32)), .val (.int (0 : Int32)), .val (.ref a), .val (.int z), .val (.int (0 : Int32)), .val (.int v2)] [(.int (2 : Int32)), (.int v2)]))
    by_cases hc34 : v2 = (2 : Int32)
    · refine own_st (fun _ k => XS.icmpNo X0.here hx rfl (hb hby own_d_prog_23_method_4_code_34) rfl (teq hc34).2 k) ?_
      show own_Gl _ _ _ _ _ _ _ (s₁.setTop (mkF m 37 #[.val (.ref a), .val (.int (0 : Int32)), .val (.int (0 : Int32)), .val (.int (0 : Int32)), .val (.ref a), .val (.int z), .val (.int (0 : Int32)), .val (.int v2)] []))
      refine own_st (fun _ k => XS.iinc X0.here hx rfl (hb hby own_d_prog_23_method_4_code_37) rfl (l' := #[.val (.ref a), .val (.int (0 : Int32)), .val (.int (0 : Int32)), .val (.int (1 : Int32)), .val (.ref a), .val (.int z), .val (.int (0 : Int32)), .val (.int v2)]) rfl k) ?_
      show own_Gl _ _ _ _ _ _ _ (s₁.setTop (mkF m 40 #[.val (.ref a), .val (.int (0 : Int32)), .val (.int (0 : Int32)), .val (.int (1 : Int32)), .val (.ref a), .val (.int z), .val (.int (0 : Int32)), .val (.int v2)] []))
      refine own_st (fun _ k => XS.goto X0.here hx rfl (pc0 := 40) (pc' := 87) rfl (hb hby own_d_prog_23_method_4_code_40) (by decide) (by decide) k) ?_
      show own_Gl _ _ _ _ _ _ _ (s₁.setTop (mkF m 87 #[.val (.ref a), .val (.int (0 : Int32)), .val (.int (0 : Int32)), .val (.int (1 : Int32)), .val (.ref a), .val (.int z), .val (.int (0 : Int32)), .val (.int v2)] []))
      show own_Gl _ _ _ _ _ _ _ (s₁.setTop (mkF m 87 #[.val (.ref a), .val (.int (0 : Int32)), .val (.int (0 : Int32)), .val (.int (1 : Int32)), .val (.ref a), .val (.int z), .val (.int (0 : Int32)), .val (.int v2)] []))
      exact J87_2 _ s₁ _ N0 X0 e0 ((0 : Int32)) ((0 : Int32)) ((1 : Int32)) ((0 : Int32)) (v2) hh0 hc21 (by rw [← hcur, own_sc_cons, if_pos hc34] <;> rfl) rfl
    · refine own_st (fun _ k => XS.icmpYes X0.here hx rfl (pc0 := 34) (pc' := 43) rfl (hb hby own_d_prog_23_method_4_code_34) rfl (feq hc34).2 (by decide) (by decide) k) ?_
      show own_Gl _ _ _ _ _ _ _ (s₁.setTop (mkF m 43 #[.val (.ref a), .val (.int (0 : Int32)), .val (.int (0 : Int32)), .val (.int (0 : Int32)), .val (.ref a), .val (.int z), .val (.int (0 : Int32)), .val (.int v2)] []))
      refine own_st (fun _ k => XS.iload X0.here hx rfl (hb hby own_d_prog_23_method_4_code_43) rfl k) ?_
      show own_Gl _ _ _ _ _ _ _ (s₁.setTop (mkF m 45 #[.val (.ref a), .val (.int (0 : Int32)), .val (.int (0 : Int32)), .val (.int (0 : Int32)), .val (.ref a), .val (.int z), .val (.int (0 : Int32)), .val (.int v2)] [(.int v2)]))
      by_cases hc45 : v2 = (0 : Int32)
      · refine own_st (fun _ k => XS.ifYes X0.here hx rfl (pc0 := 45) (pc' := 87) rfl (hb hby own_d_prog_23_method_4_code_45) rfl ((if0 _ _).trans (teq hc45).1) (by decide) (by decide) k) ?_
        show own_Gl _ _ _ _ _ _ _ (s₁.setTop (mkF m 87 #[.val (.ref a), .val (.int (0 : Int32)), .val (.int (0 : Int32)), .val (.int (0 : Int32)), .val (.ref a), .val (.int z), .val (.int (0 : Int32)), .val (.int v2)] []))
        show own_Gl _ _ _ _ _ _ _ (s₁.setTop (mkF m 87 #[.val (.ref a), .val (.int (0 : Int32)), .val (.int (0 : Int32)), .val (.int (0 : Int32)), .val (.ref a), .val (.int z), .val (.int (0 : Int32)), .val (.int v2)] []))
        exact J87_2 _ s₁ _ N0 X0 e0 ((0 : Int32)) ((0 : Int32)) ((0 : Int32)) ((0 : Int32)) (v2) hh0 hc21 (by rw [← hcur, own_sc_cons, if_neg hc34, if_pos hc45] <;> rfl) rfl
      · refine own_st (fun _ k => XS.ifNo X0.here hx rfl (hb hby own_d_prog_23_method_4_code_45) rfl ((if0 _ _).trans (feq hc45).1) k) ?_
        show own_Gl _ _ _ _ _ _ _ (s₁.setTop (mkF m 48 #[.val (.ref a), .val (.int (0 : Int32)), .val (.int (0 : Int32)), .val (.int (0 : Int32)), .val (.ref a), .val (.int z), .val (.int (0 : Int32)), .val (.int v2)] []))
        refine own_st (fun _ k => XS.iloadN X0.here hx rfl (hb hby own_d_prog_23_method_4_code_48) rfl k) ?_
        show own_Gl _ _ _ _ _ _ _ (s₁.setTop (mkF m 49 #[.val (.ref a), .val (.int (0 : Int32)), .val (.int (0 : Int32)), .val (.int (0 : Int32)), .val (.ref a), .val (.int z), .val (.int (0 : Int32)), .val (.int v2)] [(.int (0 : Int32))]))
        have hd5 : ¬ ((0 : Int32) < (0 : Int32)) := (by decide)
        refine own_st (fun _ k => XS.ifYes X0.here hx rfl (pc0 := 49) (pc' := 69) rfl (hb hby own_d_prog_23_method_4_code_49) rfl ((if0 _ _).trans (flt hd5).2.2.2) (by decide) (by decide) k) ?_
        show own_Gl _ _ _ _ _ _ _ (s₁.setTop (mkF m 69 #[.val (.ref a), .val (.int (0 : Int32)), .val (.int (0 : Int32)), .val (.int (0 : Int32)), .val (.ref a), .val (.int z), .val (.int (0 : Int32)), .val (.int v2)] []))
        refine own_st (fun _ k => XS.iloadN X0.here hx rfl (hb hby own_d_prog_23_method_4_code_69) rfl k) ?_
        show own_Gl _ _ _ _ _ _ _ (s₁.setTop (mkF m 70 #[.val (.ref a), .val (.int (0 : Int32)), .val (.int (0 : Int32)), .val (.int (0 : Int32)), .val (.ref a), .val (.int z), .val (.int (0 : Int32)), .val (.int v2)] [(.int (0 : Int32))]))
        have hd6 : (0 : Int32) = (0 : Int32) := (by decide)
        refine own_st (fun _ k => XS.ifYes X0.here hx rfl (pc0 := 70) (pc' := 82) rfl (hb hby own_d_prog_23_method_4_code_70) rfl ((if0 _ _).trans (teq hd6).1) (by decide) (by decide) k) ?_
        show own_Gl _ _ _ _ _ _ _ (s₁.setTop (mkF m 82 #[.val (.ref a), .val (.int (0 : Int32)), .val (.int (0 : Int32)), .val (.int (0 : Int32)), .val (.ref a), .val (.int z), .val (.int (0 : Int32)), .val (.int v2)] []))
        refine own_st (fun _ k => XS.iload X0.here hx rfl (hb hby own_d_prog_23_method_4_code_82) rfl k) ?_
        show own_Gl _ _ _ _ _ _ _ (s₁.setTop (mkF m 84 #[.val (.ref a), .val (.int (0 : Int32)), .val (.int (0 : Int32)), .val (.int (0 : Int32)), .val (.ref a), .val (.int z), .val (.int (0 : Int32)), .val (.int v2)] [(.int v2)]))
        refine own_st (fun _ k => XS.istoreN X0.here hx rfl (hb hby own_d_prog_23_method_4_code_84) rfl (l' := #[.val (.ref a), .val (.int (0 : Int32)), .val (.int v2), .val (.int (0 : Int32)), .val (.ref a), .val (.int z), .val (.int (0 : Int32)), .val (.int v2)]) rfl k) ?_
        show own_Gl _ _ _ _ _ _ _ (s₁.setTop (mkF m 85 #[.val (.ref a), .val (.int (0 : Int32)), .val (.int v2), .val (.int (0 : Int32)), .val (.ref a), .val (.int z), .val (.int (0 : Int32)), .val (.int v2)] []))
        refine own_st (fun _ k => XS.iconst X0.here hx rfl (hb hby own_d_prog_23_method_4_code_85) k) ?_
        show own_Gl _ _ _ _ _ _ _ (s₁.setTop (mkF m 86 #[.val (.ref a), .val (.int (0 : Int32)), .val (.int v2), .val (.int (0 : Int32)), .val (.ref a), .val (.int z), .val (.int (0 : Int32)), .val (.int v2)] [(.int (0 : Int32))]))
        refine own_st (fun _ k => XS.istoreN X0.here hx rfl (hb hby own_d_prog_23_method_4_code_86) rfl (l' := #[.val (.ref a), .val (.int (0 : Int32)), .val (.int v2), .val (.int (0 : Int32)), .val (.ref a), .val (.int z), .val (.int (0 : Int32)), .val (.int v2)]) rfl k) ?_
        show own_Gl _ _ _ _ _ _ _ (s₁.setTop (mkF m 87 #[.val (.ref a), .val (.int (0 : Int32)), .val (.int v2), .val (.int (0 : Int32)), .val (.ref a), .val (.int z), .val (.int (0 : Int32)), .val (.int v2)] []))
        show own_Gl _ _ _ _ _ _ _ (s₁.setTop (mkF m 87 #[.val (.ref a), .val (.int (0 : Int32)), .val (.int v2), .val (.int (0 : Int32)), .val (.ref a), .val (.int z), .val (.int (0 : Int32)), .val (.int v2)] []))
        exact J87_2 _ s₁ _ N0 X0 e0 ((0 : Int32)) (v2) ((0 : Int32)) ((0 : Int32)) (v2) hh0 hc21 (by rw [← hcur, own_sc_cons, if_neg hc34, if_neg hc45] <;> rfl) rfl
  · refine own_st (fun _ k => XS.icmpYes X0.here hx rfl (pc0 := 21) (pc' := 93) rfl (hb hby own_d_prog_23_method_4_code_21) rfl (flt hc21).2.1 (by decide) (by decide) k) ?_
    show own_Gl _ _ _ _ _ _ _ (s₁.setTop (mkF m 93 #[.val (.ref a), .val (.int (0 : Int32)), .val (.int (0 : Int32)), .val (.int (0 : Int32)), .val (.ref a), .val (.int z), .val (.int (0 : Int32)), .unset] []))
    have hnil : own_sc [] (0 : Int32) (0 : Int32) (0 : Int32) = own_sc xs 0 0 0 := by have q := hhead; rw [own_end xs z _ hz hh0 hc21] at q; exact q
    refine own_st (fun _ k => XS.iloadN X0.here hx rfl (hb hby own_d_prog_23_method_4_code_93) rfl k) ?_
    show own_Gl _ _ _ _ _ _ _ (s₁.setTop (mkF m 94 #[.val (.ref a), .val (.int (0 : Int32)), .val (.int (0 : Int32)), .val (.int (0 : Int32)), .val (.ref a), .val (.int z), .val (.int (0 : Int32)), .unset] [(.int (0 : Int32))]))
    have hd7 : ¬ ((0 : Int32) < (0 : Int32)) := (by decide)
    refine own_st (fun _ k => XS.ifYes X0.here hx rfl (pc0 := 94) (pc' := 110) rfl (hb hby own_d_prog_23_method_4_code_94) rfl ((if0 _ _).trans (flt hd7).2.2.2) (by decide) (by decide) k) ?_
    show own_Gl _ _ _ _ _ _ _ (s₁.setTop (mkF m 110 #[.val (.ref a), .val (.int (0 : Int32)), .val (.int (0 : Int32)), .val (.int (0 : Int32)), .val (.ref a), .val (.int z), .val (.int (0 : Int32)), .unset] []))
    refine own_st (fun _ k => XS.iloadN X0.here hx rfl (hb hby own_d_prog_23_method_4_code_110) rfl k) ?_
    show own_Gl _ _ _ _ _ _ _ (s₁.setTop (mkF m 111 #[.val (.ref a), .val (.int (0 : Int32)), .val (.int (0 : Int32)), .val (.int (0 : Int32)), .val (.ref a), .val (.int z), .val (.int (0 : Int32)), .unset] [(.int (0 : Int32))]))
    exact own_retI X0 hx hlk hret (hb hby own_d_prog_23_method_4_code_111) e0 ⟨by rw [← hnil] <;> rfl, N0, rfl⟩ (by decide) (by decide)
theorem own_pd985831318 : parseMethodDescriptor "([I)I" = some ⟨[(.array .int)], some .int⟩ := by decide +kernel
theorem own_pd144447708 : parseMethodDescriptor "([II)Z" = some ⟨[(.array .int), .int], some .boolean⟩ := by decide +kernel
theorem own_ef_own_law (m : MethodId) (x0 : Int32) (x1 : Int32) : entryFrame m #[(.int x0), (.int x1)] maxLocals = mkF m 0 #[.val (.int x0), .val (.int x1), .unset, .unset, .unset, .unset, .unset, .unset, .unset, .unset, .unset, .unset, .unset] [] := by first | (simp [entryFrame, mkF, argsToLocals, Value.category, maxLocals]; done) | rfl
def own_Q_own_law (Z : State) (p1 : Int32) (p2 : Int32) (h0 : Heap) (n0 : Nat) (v : Option Value) (h : Heap) (L : List Loc) : Prop := v = some (.int 1) ∧ Fr n0 L
set_option maxRecDepth 65536 in
set_option maxHeartbeats 40000000 in
theorem own_law (l : Launch) (Z : State) (a0 : Array Value) (hw : ∀ d ∈ tables_1, d.before a0 Z = true) (ws : List Jvm.Cond) (p1 : Int32) (p2 : Int32) (h0 : Heap) (n0 : Nat) (Z0 : n0 ≤ h0.size) :
    MetFree l x (head1 (Jvm.Cond.code x code maxLocals ret :: ws) room_1) (fun xa xU => xa = #[(.int p1), (.int p2)] ∧ Z.Warmed39 xU.vm ∧ xU.heap = h0) (fun _ _ _ _ _ => True) (fun _ xU xo xV => ∃ v L, xo = .returned v ∧ own_Q_own_law Z p1 p2 h0 n0 v xV.heap L ∧ FrameEnd xU xo xV L room_1.cells room_1.slots) := by
  refine MetFree.of_bodySF (plainFor_of_name own_pn705322622) hisR ?_
  intro p e s m args below meth c s₁ Bd hml0 hP hK
  obtain ⟨rfl, hZ, hh⟩ := hP
  have hx := Bd.exec
  have hby := Bd.bytes
  have hlk := Bd.notSynchronized
  have hret := Bd.returns
  have hml : c.maxLocals = 13 := hml0
  have hown : s.vm.findClass "org/benli/core/BernsteinSignChangesPinLaw" = some m.cls := findClass_of_methodNamed Bd.named
  have hnm := (name_of_methodNamed Bd.named Bd.method).1
  have X0 : Stand p l e room_1 s m #[(.int p1), (.int p2)] below meth c s₁ [] 0 0 := Stand.of_body Bd
  have e0 : s₁.heap = h0 := by rw [← hh, Bd.state]; rfl
  have N0 := Fr.nil n0
  show own_Gl p e below s (own_Q_own_law Z p1 p2 h0 n0) room_1.cells room_1.slots _
  refine own_cast (own_ef_own_law m p1 p2) ?_
  show own_Gl _ _ _ _ _ _ _ (s₁.setTop (mkF m 0 #[.val (.int p1), .val (.int p2), .unset, .unset, .unset, .unset, .unset, .unset, .unset, .unset, .unset, .unset, .unset] []))
  refine own_st (fun _ k => XS.iloadN X0.here hx rfl (hb hby at_0) rfl k) ?_
  show own_Gl _ _ _ _ _ _ _ (s₁.setTop (mkF m 1 #[.val (.int p1), .val (.int p2), .unset, .unset, .unset, .unset, .unset, .unset, .unset, .unset, .unset, .unset, .unset] [(.int p2)]))
  refine own_st (X0.ldcInt hx hown (mvT hZ (hw _ (List.mem_of_getElem? (i := 0) rfl))) (g := (mkF m 1 #[.val (.int p1), .val (.int p2), .unset, .unset, .unset, .unset, .unset, .unset, .unset, .unset, .unset, .unset, .unset] [(.int p2)])) rfl (hb hby at_1)) ?_
  show own_Gl _ _ _ _ _ _ _ (s₁.setTop (mkF m 3 #[.val (.int p1), .val (.int p2), .unset, .unset, .unset, .unset, .unset, .unset, .unset, .unset, .unset, .unset, .unset] [(.int (2147483647 : Int32)), (.int p2)]))
  refine own_st (fun _ k => XS.iand X0.here hx rfl (hb hby at_3) rfl k) ?_
  show own_Gl _ _ _ _ _ _ _ (s₁.setTop (mkF m 4 #[.val (.int p1), .val (.int p2), .unset, .unset, .unset, .unset, .unset, .unset, .unset, .unset, .unset, .unset, .unset] [(.int (p2 &&& (2147483647 : Int32)))]))
  refine own_st (fun _ k => XS.bipush X0.here hx rfl (hb hby at_4) k) ?_
  show own_Gl _ _ _ _ _ _ _ (s₁.setTop (mkF m 6 #[.val (.int p1), .val (.int p2), .unset, .unset, .unset, .unset, .unset, .unset, .unset, .unset, .unset, .unset, .unset] [(.int (6 : Int32)), (.int (p2 &&& (2147483647 : Int32)))]))
  refine own_st (fun _ k => iremM X0 hx rfl (hb hby at_6) rfl (by decide) k) ?_
  show own_Gl _ _ _ _ _ _ _ (s₁.setTop (mkF m 7 #[.val (.int p1), .val (.int p2), .unset, .unset, .unset, .unset, .unset, .unset, .unset, .unset, .unset, .unset, .unset] [(.int ((p2 &&& (2147483647 : Int32)) % (6 : Int32)))]))
  refine own_st (fun _ k => XS.istoreN X0.here hx rfl (hb hby at_7) rfl (l' := #[.val (.int p1), .val (.int p2), .val (.int ((p2 &&& (2147483647 : Int32)) % (6 : Int32))), .unset, .unset, .unset, .unset, .unset, .unset, .unset, .unset, .unset, .unset]) rfl k) ?_
  show own_Gl _ _ _ _ _ _ _ (s₁.setTop (mkF m 8 #[.val (.int p1), .val (.int p2), .val (.int ((p2 &&& (2147483647 : Int32)) % (6 : Int32))), .unset, .unset, .unset, .unset, .unset, .unset, .unset, .unset, .unset, .unset] []))
  refine own_st (fun _ k => XS.iloadN X0.here hx rfl (hb hby at_8) rfl k) ?_
  show own_Gl _ _ _ _ _ _ _ (s₁.setTop (mkF m 9 #[.val (.int p1), .val (.int p2), .val (.int ((p2 &&& (2147483647 : Int32)) % (6 : Int32))), .unset, .unset, .unset, .unset, .unset, .unset, .unset, .unset, .unset, .unset] [(.int p1)]))
  refine own_st (fun _ k => XS.iconst X0.here hx rfl (hb hby at_9) k) ?_
  show own_Gl _ _ _ _ _ _ _ (s₁.setTop (mkF m 10 #[.val (.int p1), .val (.int p2), .val (.int ((p2 &&& (2147483647 : Int32)) % (6 : Int32))), .unset, .unset, .unset, .unset, .unset, .unset, .unset, .unset, .unset, .unset] [(.int (0 : Int32)), (.int p1)]))
  refine own_st (fun _ k => XS.iushr X0.here hx rfl (hb hby at_10) rfl k) ?_
  show own_Gl _ _ _ _ _ _ _ (s₁.setTop (mkF m 11 #[.val (.int p1), .val (.int p2), .val (.int ((p2 &&& (2147483647 : Int32)) % (6 : Int32))), .unset, .unset, .unset, .unset, .unset, .unset, .unset, .unset, .unset, .unset] [(.int ((p1.toUInt32 >>> ((0 : Int32) &&& 31).toUInt32).toInt32))]))
  refine own_st (fun _ k => XS.iconst X0.here hx rfl (hb hby at_11) k) ?_
  show own_Gl _ _ _ _ _ _ _ (s₁.setTop (mkF m 12 #[.val (.int p1), .val (.int p2), .val (.int ((p2 &&& (2147483647 : Int32)) % (6 : Int32))), .unset, .unset, .unset, .unset, .unset, .unset, .unset, .unset, .unset, .unset] [(.int (3 : Int32)), (.int ((p1.toUInt32 >>> ((0 : Int32) &&& 31).toUInt32).toInt32))]))
  refine own_st (fun _ k => XS.iand X0.here hx rfl (hb hby at_12) rfl k) ?_
  show own_Gl _ _ _ _ _ _ _ (s₁.setTop (mkF m 13 #[.val (.int p1), .val (.int p2), .val (.int ((p2 &&& (2147483647 : Int32)) % (6 : Int32))), .unset, .unset, .unset, .unset, .unset, .unset, .unset, .unset, .unset, .unset] [(.int (((p1.toUInt32 >>> ((0 : Int32) &&& 31).toUInt32).toInt32) &&& (3 : Int32)))]))
  refine own_st (fun _ k => XS.iconst X0.here hx rfl (hb hby at_13) k) ?_
  show own_Gl _ _ _ _ _ _ _ (s₁.setTop (mkF m 14 #[.val (.int p1), .val (.int p2), .val (.int ((p2 &&& (2147483647 : Int32)) % (6 : Int32))), .unset, .unset, .unset, .unset, .unset, .unset, .unset, .unset, .unset, .unset] [(.int (1 : Int32)), (.int (((p1.toUInt32 >>> ((0 : Int32) &&& 31).toUInt32).toInt32) &&& (3 : Int32)))]))
  refine own_st (fun _ k => XS.isub X0.here hx rfl (hb hby at_14) rfl k) ?_
  show own_Gl _ _ _ _ _ _ _ (s₁.setTop (mkF m 15 #[.val (.int p1), .val (.int p2), .val (.int ((p2 &&& (2147483647 : Int32)) % (6 : Int32))), .unset, .unset, .unset, .unset, .unset, .unset, .unset, .unset, .unset, .unset] [(.int ((((p1.toUInt32 >>> ((0 : Int32) &&& 31).toUInt32).toInt32) &&& (3 : Int32)) - (1 : Int32)))]))
  refine own_st (fun _ k => XS.istoreN X0.here hx rfl (hb hby at_15) rfl (l' := #[.val (.int p1), .val (.int p2), .val (.int ((p2 &&& (2147483647 : Int32)) % (6 : Int32))), .val (.int ((((p1.toUInt32 >>> ((0 : Int32) &&& 31).toUInt32).toInt32) &&& (3 : Int32)) - (1 : Int32))), .unset, .unset, .unset, .unset, .unset, .unset, .unset, .unset, .unset]) rfl k) ?_
  show own_Gl _ _ _ _ _ _ _ (s₁.setTop (mkF m 16 #[.val (.int p1), .val (.int p2), .val (.int ((p2 &&& (2147483647 : Int32)) % (6 : Int32))), .val (.int ((((p1.toUInt32 >>> ((0 : Int32) &&& 31).toUInt32).toInt32) &&& (3 : Int32)) - (1 : Int32))), .unset, .unset, .unset, .unset, .unset, .unset, .unset, .unset, .unset] []))
  refine own_st (fun _ k => XS.iloadN X0.here hx rfl (hb hby at_16) rfl k) ?_
  show own_Gl _ _ _ _ _ _ _ (s₁.setTop (mkF m 17 #[.val (.int p1), .val (.int p2), .val (.int ((p2 &&& (2147483647 : Int32)) % (6 : Int32))), .val (.int ((((p1.toUInt32 >>> ((0 : Int32) &&& 31).toUInt32).toInt32) &&& (3 : Int32)) - (1 : Int32))), .unset, .unset, .unset, .unset, .unset, .unset, .unset, .unset, .unset] [(.int p1)]))
  refine own_st (fun _ k => XS.iconst X0.here hx rfl (hb hby at_17) k) ?_
  show own_Gl _ _ _ _ _ _ _ (s₁.setTop (mkF m 18 #[.val (.int p1), .val (.int p2), .val (.int ((p2 &&& (2147483647 : Int32)) % (6 : Int32))), .val (.int ((((p1.toUInt32 >>> ((0 : Int32) &&& 31).toUInt32).toInt32) &&& (3 : Int32)) - (1 : Int32))), .unset, .unset, .unset, .unset, .unset, .unset, .unset, .unset, .unset] [(.int (2 : Int32)), (.int p1)]))
  refine own_st (fun _ k => XS.iushr X0.here hx rfl (hb hby at_18) rfl k) ?_
  show own_Gl _ _ _ _ _ _ _ (s₁.setTop (mkF m 19 #[.val (.int p1), .val (.int p2), .val (.int ((p2 &&& (2147483647 : Int32)) % (6 : Int32))), .val (.int ((((p1.toUInt32 >>> ((0 : Int32) &&& 31).toUInt32).toInt32) &&& (3 : Int32)) - (1 : Int32))), .unset, .unset, .unset, .unset, .unset, .unset, .unset, .unset, .unset] [(.int ((p1.toUInt32 >>> ((2 : Int32) &&& 31).toUInt32).toInt32))]))
  refine own_st (fun _ k => XS.iconst X0.here hx rfl (hb hby at_19) k) ?_
  show own_Gl _ _ _ _ _ _ _ (s₁.setTop (mkF m 20 #[.val (.int p1), .val (.int p2), .val (.int ((p2 &&& (2147483647 : Int32)) % (6 : Int32))), .val (.int ((((p1.toUInt32 >>> ((0 : Int32) &&& 31).toUInt32).toInt32) &&& (3 : Int32)) - (1 : Int32))), .unset, .unset, .unset, .unset, .unset, .unset, .unset, .unset, .unset] [(.int (3 : Int32)), (.int ((p1.toUInt32 >>> ((2 : Int32) &&& 31).toUInt32).toInt32))]))
  refine own_st (fun _ k => XS.iand X0.here hx rfl (hb hby at_20) rfl k) ?_
  show own_Gl _ _ _ _ _ _ _ (s₁.setTop (mkF m 21 #[.val (.int p1), .val (.int p2), .val (.int ((p2 &&& (2147483647 : Int32)) % (6 : Int32))), .val (.int ((((p1.toUInt32 >>> ((0 : Int32) &&& 31).toUInt32).toInt32) &&& (3 : Int32)) - (1 : Int32))), .unset, .unset, .unset, .unset, .unset, .unset, .unset, .unset, .unset] [(.int (((p1.toUInt32 >>> ((2 : Int32) &&& 31).toUInt32).toInt32) &&& (3 : Int32)))]))
  refine own_st (fun _ k => XS.iconst X0.here hx rfl (hb hby at_21) k) ?_
  show own_Gl _ _ _ _ _ _ _ (s₁.setTop (mkF m 22 #[.val (.int p1), .val (.int p2), .val (.int ((p2 &&& (2147483647 : Int32)) % (6 : Int32))), .val (.int ((((p1.toUInt32 >>> ((0 : Int32) &&& 31).toUInt32).toInt32) &&& (3 : Int32)) - (1 : Int32))), .unset, .unset, .unset, .unset, .unset, .unset, .unset, .unset, .unset] [(.int (1 : Int32)), (.int (((p1.toUInt32 >>> ((2 : Int32) &&& 31).toUInt32).toInt32) &&& (3 : Int32)))]))
  refine own_st (fun _ k => XS.isub X0.here hx rfl (hb hby at_22) rfl k) ?_
  show own_Gl _ _ _ _ _ _ _ (s₁.setTop (mkF m 23 #[.val (.int p1), .val (.int p2), .val (.int ((p2 &&& (2147483647 : Int32)) % (6 : Int32))), .val (.int ((((p1.toUInt32 >>> ((0 : Int32) &&& 31).toUInt32).toInt32) &&& (3 : Int32)) - (1 : Int32))), .unset, .unset, .unset, .unset, .unset, .unset, .unset, .unset, .unset] [(.int ((((p1.toUInt32 >>> ((2 : Int32) &&& 31).toUInt32).toInt32) &&& (3 : Int32)) - (1 : Int32)))]))
  refine own_st (fun _ k => XS.istore X0.here hx rfl (hb hby at_23) rfl (l' := #[.val (.int p1), .val (.int p2), .val (.int ((p2 &&& (2147483647 : Int32)) % (6 : Int32))), .val (.int ((((p1.toUInt32 >>> ((0 : Int32) &&& 31).toUInt32).toInt32) &&& (3 : Int32)) - (1 : Int32))), .val (.int ((((p1.toUInt32 >>> ((2 : Int32) &&& 31).toUInt32).toInt32) &&& (3 : Int32)) - (1 : Int32))), .unset, .unset, .unset, .unset, .unset, .unset, .unset, .unset]) rfl k) ?_
  show own_Gl _ _ _ _ _ _ _ (s₁.setTop (mkF m 25 #[.val (.int p1), .val (.int p2), .val (.int ((p2 &&& (2147483647 : Int32)) % (6 : Int32))), .val (.int ((((p1.toUInt32 >>> ((0 : Int32) &&& 31).toUInt32).toInt32) &&& (3 : Int32)) - (1 : Int32))), .val (.int ((((p1.toUInt32 >>> ((2 : Int32) &&& 31).toUInt32).toInt32) &&& (3 : Int32)) - (1 : Int32))), .unset, .unset, .unset, .unset, .unset, .unset, .unset, .unset] []))
  refine own_st (fun _ k => XS.iloadN X0.here hx rfl (hb hby at_25) rfl k) ?_
  show own_Gl _ _ _ _ _ _ _ (s₁.setTop (mkF m 26 #[.val (.int p1), .val (.int p2), .val (.int ((p2 &&& (2147483647 : Int32)) % (6 : Int32))), .val (.int ((((p1.toUInt32 >>> ((0 : Int32) &&& 31).toUInt32).toInt32) &&& (3 : Int32)) - (1 : Int32))), .val (.int ((((p1.toUInt32 >>> ((2 : Int32) &&& 31).toUInt32).toInt32) &&& (3 : Int32)) - (1 : Int32))), .unset, .unset, .unset, .unset, .unset, .unset, .unset, .unset] [(.int p1)]))
  refine own_st (fun _ k => XS.iconst X0.here hx rfl (hb hby at_26) k) ?_
  show own_Gl _ _ _ _ _ _ _ (s₁.setTop (mkF m 27 #[.val (.int p1), .val (.int p2), .val (.int ((p2 &&& (2147483647 : Int32)) % (6 : Int32))), .val (.int ((((p1.toUInt32 >>> ((0 : Int32) &&& 31).toUInt32).toInt32) &&& (3 : Int32)) - (1 : Int32))), .val (.int ((((p1.toUInt32 >>> ((2 : Int32) &&& 31).toUInt32).toInt32) &&& (3 : Int32)) - (1 : Int32))), .unset, .unset, .unset, .unset, .unset, .unset, .unset, .unset] [(.int (4 : Int32)), (.int p1)]))
  refine own_st (fun _ k => XS.iushr X0.here hx rfl (hb hby at_27) rfl k) ?_
  show own_Gl _ _ _ _ _ _ _ (s₁.setTop (mkF m 28 #[.val (.int p1), .val (.int p2), .val (.int ((p2 &&& (2147483647 : Int32)) % (6 : Int32))), .val (.int ((((p1.toUInt32 >>> ((0 : Int32) &&& 31).toUInt32).toInt32) &&& (3 : Int32)) - (1 : Int32))), .val (.int ((((p1.toUInt32 >>> ((2 : Int32) &&& 31).toUInt32).toInt32) &&& (3 : Int32)) - (1 : Int32))), .unset, .unset, .unset, .unset, .unset, .unset, .unset, .unset] [(.int ((p1.toUInt32 >>> ((4 : Int32) &&& 31).toUInt32).toInt32))]))
  refine own_st (fun _ k => XS.iconst X0.here hx rfl (hb hby at_28) k) ?_
  show own_Gl _ _ _ _ _ _ _ (s₁.setTop (mkF m 29 #[.val (.int p1), .val (.int p2), .val (.int ((p2 &&& (2147483647 : Int32)) % (6 : Int32))), .val (.int ((((p1.toUInt32 >>> ((0 : Int32) &&& 31).toUInt32).toInt32) &&& (3 : Int32)) - (1 : Int32))), .val (.int ((((p1.toUInt32 >>> ((2 : Int32) &&& 31).toUInt32).toInt32) &&& (3 : Int32)) - (1 : Int32))), .unset, .unset, .unset, .unset, .unset, .unset, .unset, .unset] [(.int (3 : Int32)), (.int ((p1.toUInt32 >>> ((4 : Int32) &&& 31).toUInt32).toInt32))]))
  refine own_st (fun _ k => XS.iand X0.here hx rfl (hb hby at_29) rfl k) ?_
  show own_Gl _ _ _ _ _ _ _ (s₁.setTop (mkF m 30 #[.val (.int p1), .val (.int p2), .val (.int ((p2 &&& (2147483647 : Int32)) % (6 : Int32))), .val (.int ((((p1.toUInt32 >>> ((0 : Int32) &&& 31).toUInt32).toInt32) &&& (3 : Int32)) - (1 : Int32))), .val (.int ((((p1.toUInt32 >>> ((2 : Int32) &&& 31).toUInt32).toInt32) &&& (3 : Int32)) - (1 : Int32))), .unset, .unset, .unset, .unset, .unset, .unset, .unset, .unset] [(.int (((p1.toUInt32 >>> ((4 : Int32) &&& 31).toUInt32).toInt32) &&& (3 : Int32)))]))
  refine own_st (fun _ k => XS.iconst X0.here hx rfl (hb hby at_30) k) ?_
  show own_Gl _ _ _ _ _ _ _ (s₁.setTop (mkF m 31 #[.val (.int p1), .val (.int p2), .val (.int ((p2 &&& (2147483647 : Int32)) % (6 : Int32))), .val (.int ((((p1.toUInt32 >>> ((0 : Int32) &&& 31).toUInt32).toInt32) &&& (3 : Int32)) - (1 : Int32))), .val (.int ((((p1.toUInt32 >>> ((2 : Int32) &&& 31).toUInt32).toInt32) &&& (3 : Int32)) - (1 : Int32))), .unset, .unset, .unset, .unset, .unset, .unset, .unset, .unset] [(.int (1 : Int32)), (.int (((p1.toUInt32 >>> ((4 : Int32) &&& 31).toUInt32).toInt32) &&& (3 : Int32)))]))
  refine own_st (fun _ k => XS.isub X0.here hx rfl (hb hby at_31) rfl k) ?_
  show own_Gl _ _ _ _ _ _ _ (s₁.setTop (mkF m 32 #[.val (.int p1), .val (.int p2), .val (.int ((p2 &&& (2147483647 : Int32)) % (6 : Int32))), .val (.int ((((p1.toUInt32 >>> ((0 : Int32) &&& 31).toUInt32).toInt32) &&& (3 : Int32)) - (1 : Int32))), .val (.int ((((p1.toUInt32 >>> ((2 : Int32) &&& 31).toUInt32).toInt32) &&& (3 : Int32)) - (1 : Int32))), .unset, .unset, .unset, .unset, .unset, .unset, .unset, .unset] [(.int ((((p1.toUInt32 >>> ((4 : Int32) &&& 31).toUInt32).toInt32) &&& (3 : Int32)) - (1 : Int32)))]))
  refine own_st (fun _ k => XS.istore X0.here hx rfl (hb hby at_32) rfl (l' := #[.val (.int p1), .val (.int p2), .val (.int ((p2 &&& (2147483647 : Int32)) % (6 : Int32))), .val (.int ((((p1.toUInt32 >>> ((0 : Int32) &&& 31).toUInt32).toInt32) &&& (3 : Int32)) - (1 : Int32))), .val (.int ((((p1.toUInt32 >>> ((2 : Int32) &&& 31).toUInt32).toInt32) &&& (3 : Int32)) - (1 : Int32))), .val (.int ((((p1.toUInt32 >>> ((4 : Int32) &&& 31).toUInt32).toInt32) &&& (3 : Int32)) - (1 : Int32))), .unset, .unset, .unset, .unset, .unset, .unset, .unset]) rfl k) ?_
  show own_Gl _ _ _ _ _ _ _ (s₁.setTop (mkF m 34 #[.val (.int p1), .val (.int p2), .val (.int ((p2 &&& (2147483647 : Int32)) % (6 : Int32))), .val (.int ((((p1.toUInt32 >>> ((0 : Int32) &&& 31).toUInt32).toInt32) &&& (3 : Int32)) - (1 : Int32))), .val (.int ((((p1.toUInt32 >>> ((2 : Int32) &&& 31).toUInt32).toInt32) &&& (3 : Int32)) - (1 : Int32))), .val (.int ((((p1.toUInt32 >>> ((4 : Int32) &&& 31).toUInt32).toInt32) &&& (3 : Int32)) - (1 : Int32))), .unset, .unset, .unset, .unset, .unset, .unset, .unset] []))
  refine own_st (fun _ k => XS.iloadN X0.here hx rfl (hb hby at_34) rfl k) ?_
  show own_Gl _ _ _ _ _ _ _ (s₁.setTop (mkF m 35 #[.val (.int p1), .val (.int p2), .val (.int ((p2 &&& (2147483647 : Int32)) % (6 : Int32))), .val (.int ((((p1.toUInt32 >>> ((0 : Int32) &&& 31).toUInt32).toInt32) &&& (3 : Int32)) - (1 : Int32))), .val (.int ((((p1.toUInt32 >>> ((2 : Int32) &&& 31).toUInt32).toInt32) &&& (3 : Int32)) - (1 : Int32))), .val (.int ((((p1.toUInt32 >>> ((4 : Int32) &&& 31).toUInt32).toInt32) &&& (3 : Int32)) - (1 : Int32))), .unset, .unset, .unset, .unset, .unset, .unset, .unset] [(.int p1)]))
  refine own_st (fun _ k => XS.bipush X0.here hx rfl (hb hby at_35) k) ?_
  show own_Gl _ _ _ _ _ _ _ (s₁.setTop (mkF m 37 #[.val (.int p1), .val (.int p2), .val (.int ((p2 &&& (2147483647 : Int32)) % (6 : Int32))), .val (.int ((((p1.toUInt32 >>> ((0 : Int32) &&& 31).toUInt32).toInt32) &&& (3 : Int32)) - (1 : Int32))), .val (.int ((((p1.toUInt32 >>> ((2 : Int32) &&& 31).toUInt32).toInt32) &&& (3 : Int32)) - (1 : Int32))), .val (.int ((((p1.toUInt32 >>> ((4 : Int32) &&& 31).toUInt32).toInt32) &&& (3 : Int32)) - (1 : Int32))), .unset, .unset, .unset, .unset, .unset, .unset, .unset] [(.int (6 : Int32)), (.int p1)]))
  refine own_st (fun _ k => XS.iushr X0.here hx rfl (hb hby at_37) rfl k) ?_
  show own_Gl _ _ _ _ _ _ _ (s₁.setTop (mkF m 38 #[.val (.int p1), .val (.int p2), .val (.int ((p2 &&& (2147483647 : Int32)) % (6 : Int32))), .val (.int ((((p1.toUInt32 >>> ((0 : Int32) &&& 31).toUInt32).toInt32) &&& (3 : Int32)) - (1 : Int32))), .val (.int ((((p1.toUInt32 >>> ((2 : Int32) &&& 31).toUInt32).toInt32) &&& (3 : Int32)) - (1 : Int32))), .val (.int ((((p1.toUInt32 >>> ((4 : Int32) &&& 31).toUInt32).toInt32) &&& (3 : Int32)) - (1 : Int32))), .unset, .unset, .unset, .unset, .unset, .unset, .unset] [(.int ((p1.toUInt32 >>> ((6 : Int32) &&& 31).toUInt32).toInt32))]))
  refine own_st (fun _ k => XS.iconst X0.here hx rfl (hb hby at_38) k) ?_
  show own_Gl _ _ _ _ _ _ _ (s₁.setTop (mkF m 39 #[.val (.int p1), .val (.int p2), .val (.int ((p2 &&& (2147483647 : Int32)) % (6 : Int32))), .val (.int ((((p1.toUInt32 >>> ((0 : Int32) &&& 31).toUInt32).toInt32) &&& (3 : Int32)) - (1 : Int32))), .val (.int ((((p1.toUInt32 >>> ((2 : Int32) &&& 31).toUInt32).toInt32) &&& (3 : Int32)) - (1 : Int32))), .val (.int ((((p1.toUInt32 >>> ((4 : Int32) &&& 31).toUInt32).toInt32) &&& (3 : Int32)) - (1 : Int32))), .unset, .unset, .unset, .unset, .unset, .unset, .unset] [(.int (3 : Int32)), (.int ((p1.toUInt32 >>> ((6 : Int32) &&& 31).toUInt32).toInt32))]))
  refine own_st (fun _ k => XS.iand X0.here hx rfl (hb hby at_39) rfl k) ?_
  show own_Gl _ _ _ _ _ _ _ (s₁.setTop (mkF m 40 #[.val (.int p1), .val (.int p2), .val (.int ((p2 &&& (2147483647 : Int32)) % (6 : Int32))), .val (.int ((((p1.toUInt32 >>> ((0 : Int32) &&& 31).toUInt32).toInt32) &&& (3 : Int32)) - (1 : Int32))), .val (.int ((((p1.toUInt32 >>> ((2 : Int32) &&& 31).toUInt32).toInt32) &&& (3 : Int32)) - (1 : Int32))), .val (.int ((((p1.toUInt32 >>> ((4 : Int32) &&& 31).toUInt32).toInt32) &&& (3 : Int32)) - (1 : Int32))), .unset, .unset, .unset, .unset, .unset, .unset, .unset] [(.int (((p1.toUInt32 >>> ((6 : Int32) &&& 31).toUInt32).toInt32) &&& (3 : Int32)))]))
  refine own_st (fun _ k => XS.iconst X0.here hx rfl (hb hby at_40) k) ?_
  show own_Gl _ _ _ _ _ _ _ (s₁.setTop (mkF m 41 #[.val (.int p1), .val (.int p2), .val (.int ((p2 &&& (2147483647 : Int32)) % (6 : Int32))), .val (.int ((((p1.toUInt32 >>> ((0 : Int32) &&& 31).toUInt32).toInt32) &&& (3 : Int32)) - (1 : Int32))), .val (.int ((((p1.toUInt32 >>> ((2 : Int32) &&& 31).toUInt32).toInt32) &&& (3 : Int32)) - (1 : Int32))), .val (.int ((((p1.toUInt32 >>> ((4 : Int32) &&& 31).toUInt32).toInt32) &&& (3 : Int32)) - (1 : Int32))), .unset, .unset, .unset, .unset, .unset, .unset, .unset] [(.int (1 : Int32)), (.int (((p1.toUInt32 >>> ((6 : Int32) &&& 31).toUInt32).toInt32) &&& (3 : Int32)))]))
  refine own_st (fun _ k => XS.isub X0.here hx rfl (hb hby at_41) rfl k) ?_
  show own_Gl _ _ _ _ _ _ _ (s₁.setTop (mkF m 42 #[.val (.int p1), .val (.int p2), .val (.int ((p2 &&& (2147483647 : Int32)) % (6 : Int32))), .val (.int ((((p1.toUInt32 >>> ((0 : Int32) &&& 31).toUInt32).toInt32) &&& (3 : Int32)) - (1 : Int32))), .val (.int ((((p1.toUInt32 >>> ((2 : Int32) &&& 31).toUInt32).toInt32) &&& (3 : Int32)) - (1 : Int32))), .val (.int ((((p1.toUInt32 >>> ((4 : Int32) &&& 31).toUInt32).toInt32) &&& (3 : Int32)) - (1 : Int32))), .unset, .unset, .unset, .unset, .unset, .unset, .unset] [(.int ((((p1.toUInt32 >>> ((6 : Int32) &&& 31).toUInt32).toInt32) &&& (3 : Int32)) - (1 : Int32)))]))
  refine own_st (fun _ k => XS.istore X0.here hx rfl (hb hby at_42) rfl (l' := #[.val (.int p1), .val (.int p2), .val (.int ((p2 &&& (2147483647 : Int32)) % (6 : Int32))), .val (.int ((((p1.toUInt32 >>> ((0 : Int32) &&& 31).toUInt32).toInt32) &&& (3 : Int32)) - (1 : Int32))), .val (.int ((((p1.toUInt32 >>> ((2 : Int32) &&& 31).toUInt32).toInt32) &&& (3 : Int32)) - (1 : Int32))), .val (.int ((((p1.toUInt32 >>> ((4 : Int32) &&& 31).toUInt32).toInt32) &&& (3 : Int32)) - (1 : Int32))), .val (.int ((((p1.toUInt32 >>> ((6 : Int32) &&& 31).toUInt32).toInt32) &&& (3 : Int32)) - (1 : Int32))), .unset, .unset, .unset, .unset, .unset, .unset]) rfl k) ?_
  show own_Gl _ _ _ _ _ _ _ (s₁.setTop (mkF m 44 #[.val (.int p1), .val (.int p2), .val (.int ((p2 &&& (2147483647 : Int32)) % (6 : Int32))), .val (.int ((((p1.toUInt32 >>> ((0 : Int32) &&& 31).toUInt32).toInt32) &&& (3 : Int32)) - (1 : Int32))), .val (.int ((((p1.toUInt32 >>> ((2 : Int32) &&& 31).toUInt32).toInt32) &&& (3 : Int32)) - (1 : Int32))), .val (.int ((((p1.toUInt32 >>> ((4 : Int32) &&& 31).toUInt32).toInt32) &&& (3 : Int32)) - (1 : Int32))), .val (.int ((((p1.toUInt32 >>> ((6 : Int32) &&& 31).toUInt32).toInt32) &&& (3 : Int32)) - (1 : Int32))), .unset, .unset, .unset, .unset, .unset, .unset] []))
  refine own_st (fun _ k => XS.iloadN X0.here hx rfl (hb hby at_44) rfl k) ?_
  show own_Gl _ _ _ _ _ _ _ (s₁.setTop (mkF m 45 #[.val (.int p1), .val (.int p2), .val (.int ((p2 &&& (2147483647 : Int32)) % (6 : Int32))), .val (.int ((((p1.toUInt32 >>> ((0 : Int32) &&& 31).toUInt32).toInt32) &&& (3 : Int32)) - (1 : Int32))), .val (.int ((((p1.toUInt32 >>> ((2 : Int32) &&& 31).toUInt32).toInt32) &&& (3 : Int32)) - (1 : Int32))), .val (.int ((((p1.toUInt32 >>> ((4 : Int32) &&& 31).toUInt32).toInt32) &&& (3 : Int32)) - (1 : Int32))), .val (.int ((((p1.toUInt32 >>> ((6 : Int32) &&& 31).toUInt32).toInt32) &&& (3 : Int32)) - (1 : Int32))), .unset, .unset, .unset, .unset, .unset, .unset] [(.int p1)]))
  refine own_st (fun _ k => XS.bipush X0.here hx rfl (hb hby at_45) k) ?_
  show own_Gl _ _ _ _ _ _ _ (s₁.setTop (mkF m 47 #[.val (.int p1), .val (.int p2), .val (.int ((p2 &&& (2147483647 : Int32)) % (6 : Int32))), .val (.int ((((p1.toUInt32 >>> ((0 : Int32) &&& 31).toUInt32).toInt32) &&& (3 : Int32)) - (1 : Int32))), .val (.int ((((p1.toUInt32 >>> ((2 : Int32) &&& 31).toUInt32).toInt32) &&& (3 : Int32)) - (1 : Int32))), .val (.int ((((p1.toUInt32 >>> ((4 : Int32) &&& 31).toUInt32).toInt32) &&& (3 : Int32)) - (1 : Int32))), .val (.int ((((p1.toUInt32 >>> ((6 : Int32) &&& 31).toUInt32).toInt32) &&& (3 : Int32)) - (1 : Int32))), .unset, .unset, .unset, .unset, .unset, .unset] [(.int (8 : Int32)), (.int p1)]))
  refine own_st (fun _ k => XS.iushr X0.here hx rfl (hb hby at_47) rfl k) ?_
  show own_Gl _ _ _ _ _ _ _ (s₁.setTop (mkF m 48 #[.val (.int p1), .val (.int p2), .val (.int ((p2 &&& (2147483647 : Int32)) % (6 : Int32))), .val (.int ((((p1.toUInt32 >>> ((0 : Int32) &&& 31).toUInt32).toInt32) &&& (3 : Int32)) - (1 : Int32))), .val (.int ((((p1.toUInt32 >>> ((2 : Int32) &&& 31).toUInt32).toInt32) &&& (3 : Int32)) - (1 : Int32))), .val (.int ((((p1.toUInt32 >>> ((4 : Int32) &&& 31).toUInt32).toInt32) &&& (3 : Int32)) - (1 : Int32))), .val (.int ((((p1.toUInt32 >>> ((6 : Int32) &&& 31).toUInt32).toInt32) &&& (3 : Int32)) - (1 : Int32))), .unset, .unset, .unset, .unset, .unset, .unset] [(.int ((p1.toUInt32 >>> ((8 : Int32) &&& 31).toUInt32).toInt32))]))
  refine own_st (fun _ k => XS.iconst X0.here hx rfl (hb hby at_48) k) ?_
  show own_Gl _ _ _ _ _ _ _ (s₁.setTop (mkF m 49 #[.val (.int p1), .val (.int p2), .val (.int ((p2 &&& (2147483647 : Int32)) % (6 : Int32))), .val (.int ((((p1.toUInt32 >>> ((0 : Int32) &&& 31).toUInt32).toInt32) &&& (3 : Int32)) - (1 : Int32))), .val (.int ((((p1.toUInt32 >>> ((2 : Int32) &&& 31).toUInt32).toInt32) &&& (3 : Int32)) - (1 : Int32))), .val (.int ((((p1.toUInt32 >>> ((4 : Int32) &&& 31).toUInt32).toInt32) &&& (3 : Int32)) - (1 : Int32))), .val (.int ((((p1.toUInt32 >>> ((6 : Int32) &&& 31).toUInt32).toInt32) &&& (3 : Int32)) - (1 : Int32))), .unset, .unset, .unset, .unset, .unset, .unset] [(.int (3 : Int32)), (.int ((p1.toUInt32 >>> ((8 : Int32) &&& 31).toUInt32).toInt32))]))
  refine own_st (fun _ k => XS.iand X0.here hx rfl (hb hby at_49) rfl k) ?_
  show own_Gl _ _ _ _ _ _ _ (s₁.setTop (mkF m 50 #[.val (.int p1), .val (.int p2), .val (.int ((p2 &&& (2147483647 : Int32)) % (6 : Int32))), .val (.int ((((p1.toUInt32 >>> ((0 : Int32) &&& 31).toUInt32).toInt32) &&& (3 : Int32)) - (1 : Int32))), .val (.int ((((p1.toUInt32 >>> ((2 : Int32) &&& 31).toUInt32).toInt32) &&& (3 : Int32)) - (1 : Int32))), .val (.int ((((p1.toUInt32 >>> ((4 : Int32) &&& 31).toUInt32).toInt32) &&& (3 : Int32)) - (1 : Int32))), .val (.int ((((p1.toUInt32 >>> ((6 : Int32) &&& 31).toUInt32).toInt32) &&& (3 : Int32)) - (1 : Int32))), .unset, .unset, .unset, .unset, .unset, .unset] [(.int (((p1.toUInt32 >>> ((8 : Int32) &&& 31).toUInt32).toInt32) &&& (3 : Int32)))]))
  refine own_st (fun _ k => XS.iconst X0.here hx rfl (hb hby at_50) k) ?_
  show own_Gl _ _ _ _ _ _ _ (s₁.setTop (mkF m 51 #[.val (.int p1), .val (.int p2), .val (.int ((p2 &&& (2147483647 : Int32)) % (6 : Int32))), .val (.int ((((p1.toUInt32 >>> ((0 : Int32) &&& 31).toUInt32).toInt32) &&& (3 : Int32)) - (1 : Int32))), .val (.int ((((p1.toUInt32 >>> ((2 : Int32) &&& 31).toUInt32).toInt32) &&& (3 : Int32)) - (1 : Int32))), .val (.int ((((p1.toUInt32 >>> ((4 : Int32) &&& 31).toUInt32).toInt32) &&& (3 : Int32)) - (1 : Int32))), .val (.int ((((p1.toUInt32 >>> ((6 : Int32) &&& 31).toUInt32).toInt32) &&& (3 : Int32)) - (1 : Int32))), .unset, .unset, .unset, .unset, .unset, .unset] [(.int (1 : Int32)), (.int (((p1.toUInt32 >>> ((8 : Int32) &&& 31).toUInt32).toInt32) &&& (3 : Int32)))]))
  refine own_st (fun _ k => XS.isub X0.here hx rfl (hb hby at_51) rfl k) ?_
  show own_Gl _ _ _ _ _ _ _ (s₁.setTop (mkF m 52 #[.val (.int p1), .val (.int p2), .val (.int ((p2 &&& (2147483647 : Int32)) % (6 : Int32))), .val (.int ((((p1.toUInt32 >>> ((0 : Int32) &&& 31).toUInt32).toInt32) &&& (3 : Int32)) - (1 : Int32))), .val (.int ((((p1.toUInt32 >>> ((2 : Int32) &&& 31).toUInt32).toInt32) &&& (3 : Int32)) - (1 : Int32))), .val (.int ((((p1.toUInt32 >>> ((4 : Int32) &&& 31).toUInt32).toInt32) &&& (3 : Int32)) - (1 : Int32))), .val (.int ((((p1.toUInt32 >>> ((6 : Int32) &&& 31).toUInt32).toInt32) &&& (3 : Int32)) - (1 : Int32))), .unset, .unset, .unset, .unset, .unset, .unset] [(.int ((((p1.toUInt32 >>> ((8 : Int32) &&& 31).toUInt32).toInt32) &&& (3 : Int32)) - (1 : Int32)))]))
  refine own_st (fun _ k => XS.istore X0.here hx rfl (hb hby at_52) rfl (l' := #[.val (.int p1), .val (.int p2), .val (.int ((p2 &&& (2147483647 : Int32)) % (6 : Int32))), .val (.int ((((p1.toUInt32 >>> ((0 : Int32) &&& 31).toUInt32).toInt32) &&& (3 : Int32)) - (1 : Int32))), .val (.int ((((p1.toUInt32 >>> ((2 : Int32) &&& 31).toUInt32).toInt32) &&& (3 : Int32)) - (1 : Int32))), .val (.int ((((p1.toUInt32 >>> ((4 : Int32) &&& 31).toUInt32).toInt32) &&& (3 : Int32)) - (1 : Int32))), .val (.int ((((p1.toUInt32 >>> ((6 : Int32) &&& 31).toUInt32).toInt32) &&& (3 : Int32)) - (1 : Int32))), .val (.int ((((p1.toUInt32 >>> ((8 : Int32) &&& 31).toUInt32).toInt32) &&& (3 : Int32)) - (1 : Int32))), .unset, .unset, .unset, .unset, .unset]) rfl k) ?_
  show own_Gl _ _ _ _ _ _ _ (s₁.setTop (mkF m 54 #[.val (.int p1), .val (.int p2), .val (.int ((p2 &&& (2147483647 : Int32)) % (6 : Int32))), .val (.int ((((p1.toUInt32 >>> ((0 : Int32) &&& 31).toUInt32).toInt32) &&& (3 : Int32)) - (1 : Int32))), .val (.int ((((p1.toUInt32 >>> ((2 : Int32) &&& 31).toUInt32).toInt32) &&& (3 : Int32)) - (1 : Int32))), .val (.int ((((p1.toUInt32 >>> ((4 : Int32) &&& 31).toUInt32).toInt32) &&& (3 : Int32)) - (1 : Int32))), .val (.int ((((p1.toUInt32 >>> ((6 : Int32) &&& 31).toUInt32).toInt32) &&& (3 : Int32)) - (1 : Int32))), .val (.int ((((p1.toUInt32 >>> ((8 : Int32) &&& 31).toUInt32).toInt32) &&& (3 : Int32)) - (1 : Int32))), .unset, .unset, .unset, .unset, .unset] []))
  obtain ⟨x3, hx3⟩ : ∃ q, q = ((((p1.toUInt32 >>> ((0 : Int32) &&& 31).toUInt32).toInt32) &&& (3 : Int32)) - (1 : Int32)) := ⟨_, rfl⟩
  rw [← hx3]
  have hm3 : x3 ∈ own_vals := by rw [hx3]; exact own_in4 _
  obtain ⟨x4, hx4⟩ : ∃ q, q = ((((p1.toUInt32 >>> ((2 : Int32) &&& 31).toUInt32).toInt32) &&& (3 : Int32)) - (1 : Int32)) := ⟨_, rfl⟩
  rw [← hx4]
  have hm4 : x4 ∈ own_vals := by rw [hx4]; exact own_in4 _
  obtain ⟨x5, hx5⟩ : ∃ q, q = ((((p1.toUInt32 >>> ((4 : Int32) &&& 31).toUInt32).toInt32) &&& (3 : Int32)) - (1 : Int32)) := ⟨_, rfl⟩
  rw [← hx5]
  have hm5 : x5 ∈ own_vals := by rw [hx5]; exact own_in4 _
  obtain ⟨x6, hx6⟩ : ∃ q, q = ((((p1.toUInt32 >>> ((6 : Int32) &&& 31).toUInt32).toInt32) &&& (3 : Int32)) - (1 : Int32)) := ⟨_, rfl⟩
  rw [← hx6]
  have hm6 : x6 ∈ own_vals := by rw [hx6]; exact own_in4 _
  obtain ⟨x7, hx7⟩ : ∃ q, q = ((((p1.toUInt32 >>> ((8 : Int32) &&& 31).toUInt32).toInt32) &&& (3 : Int32)) - (1 : Int32)) := ⟨_, rfl⟩
  rw [← hx7]
  have hm7 : x7 ∈ own_vals := by rw [hx7]; exact own_in4 _
  show own_Gl _ _ _ _ _ _ _ (s₁.setTop (mkF m 54 #[.val (.int p1), .val (.int p2), .val (.int ((p2 &&& (2147483647 : Int32)) % (6 : Int32))), .val (.int x3), .val (.int x4), .val (.int x5), .val (.int x6), .val (.int x7), .unset, .unset, .unset, .unset, .unset] []))
  have J193_1 : ∀ (T1 : State) (LL1 : List Loc) (N1 : Fr n0 LL1) (X1 : Stand p l e room_1 s m #[(.int p1), (.int p2)] below meth c T1 LL1 1 5) (h1 : Heap) (e1 : T1.heap = h1) (sa : Addr) (ka : ClassId) (za : Int32) (xs : List Int32) (Zs1 : n0 ≤ h1.size) (Kj1 : Keep h0 h1 []) (fj1_0 : Arv Z h1 sa ka .int za (xs.map Value.int) (.int (0 : Int32))) (hz : za.toNatClampNeg = xs.length) (hgood : own_sc xs 0 0 0 = own_expect xs za), own_Gl p e below s (own_Q_own_law Z p1 p2 h0 n0) room_1.cells room_1.slots (T1.setTop (mkF m 193 #[.val (.int p1), .val (.int p2), .val (.int ((p2 &&& (2147483647 : Int32)) % (6 : Int32))), .val (.int x3), .val (.int x4), .val (.int x5), .val (.int x6), .val (.int x7), .val (.ref sa), .unset, .unset, .unset, .unset] [])) := by
    intro T1 LL1 N1 X1 h1 e1 sa ka za xs Zs1 Kj1 fj1_0 hz hgood
    show own_Gl _ _ _ _ _ _ _ (T1.setTop (mkF m 193 #[.val (.int p1), .val (.int p2), .val (.int ((p2 &&& (2147483647 : Int32)) % (6 : Int32))), .val (.int x3), .val (.int x4), .val (.int x5), .val (.int x6), .val (.int x7), .val (.ref sa), .unset, .unset, .unset, .unset] []))
    refine own_st (fun _ k => XS.aload X1.here hx rfl (hb hby at_193) rfl rfl k) ?_
    show own_Gl _ _ _ _ _ _ _ (T1.setTop (mkF m 195 #[.val (.int p1), .val (.int p2), .val (.int ((p2 &&& (2147483647 : Int32)) % (6 : Int32))), .val (.int x3), .val (.int x4), .val (.int x5), .val (.int x6), .val (.int x7), .val (.ref sa), .unset, .unset, .unset, .unset] [(.ref sa)]))
    obtain ⟨_, _, ⟨T2, L2, k2, n2⟩, -, X2, ⟨Lc2, hQ2, l2, y2, z2⟩, st2⟩ := Jvm.LawKit.callS X1 hx (y := (⟨"org/benli/core/Bernstein", "signChanges", "([I)I"⟩ : MethodName)) hown (mvT hZ (hw _ (List.mem_of_getElem? (i := 2) rfl))) (mvT hZ (hw _ (List.mem_of_getElem? (i := 3) rfl))) (mvT hZ (hw _ (List.mem_of_getElem? (i := 4) rfl))) (mvT hZ (hw _ (List.mem_of_getElem? (i := 5) rfl))) (by decide) (backOf (W := 0) (own_r_sc l Z a0 hw [] sa ka za xs h1 n0 Zs1 fj1_0 hz) hZ (hw _ (List.mem_of_getElem? (i := 5) rfl)) (hw _ (List.mem_of_getElem? (i := 4) rfl)) (by decide) (by decide)) (g := (mkF m 195 #[.val (.int p1), .val (.int p2), .val (.int ((p2 &&& (2147483647 : Int32)) % (6 : Int32))), .val (.int x3), .val (.int x4), .val (.int x5), .val (.int x6), .val (.int x7), .val (.ref sa), .unset, .unset, .unset, .unset] [(.ref sa)])) rfl (by rw [hml]; rfl) (argsL := [(.ref sa)]) (rest := []) (lenOf own_pd985831318 rfl) rfl (by show 2 * 0 + _ ≤ _; exact Nat.le_of_eq rfl) (hb hby at_195) (fun _ _ => ⟨rfl, e1, (by decide : 1 + 0 ≤ room_1.cells), (by decide : 5 + 0 ≤ room_1.slots)⟩)
    dsimp only [Pt.U, Pt.locs, Pt.cells, Pt.slots] at X2 l2 y2 z2 st2 hQ2
    subst l2 y2 z2
    obtain ⟨hh2, eh02⟩ : ∃ z, T2.heap = z := ⟨_, rfl⟩
    rw [eh02] at hQ2
    obtain ⟨rfl, Nq2, eh2⟩ := hQ2
    have N2 := Fr.app N1 Nq2
    refine own_st st2 ?_
    have e2 : T2.heap = h1 := eh02.trans eh2
    show own_Gl _ _ _ _ _ _ _ (T2.setTop (mkF m 198 #[.val (.int p1), .val (.int p2), .val (.int ((p2 &&& (2147483647 : Int32)) % (6 : Int32))), .val (.int x3), .val (.int x4), .val (.int x5), .val (.int x6), .val (.int x7), .val (.ref sa), .unset, .unset, .unset, .unset] [(.int (own_sc xs 0 0 0))]))
    refine own_st (fun _ k => XS.istore X2.here hx rfl (hb hby at_198) rfl (l' := #[.val (.int p1), .val (.int p2), .val (.int ((p2 &&& (2147483647 : Int32)) % (6 : Int32))), .val (.int x3), .val (.int x4), .val (.int x5), .val (.int x6), .val (.int x7), .val (.ref sa), .val (.int (own_sc xs 0 0 0)), .unset, .unset, .unset]) rfl k) ?_
    show own_Gl _ _ _ _ _ _ _ (T2.setTop (mkF m 200 #[.val (.int p1), .val (.int p2), .val (.int ((p2 &&& (2147483647 : Int32)) % (6 : Int32))), .val (.int x3), .val (.int x4), .val (.int x5), .val (.int x6), .val (.int x7), .val (.ref sa), .val (.int (own_sc xs 0 0 0)), .unset, .unset, .unset] []))
    refine own_st (fun _ k => XS.aload X2.here hx rfl (hb hby at_200) rfl rfl k) ?_
    show own_Gl _ _ _ _ _ _ _ (T2.setTop (mkF m 202 #[.val (.int p1), .val (.int p2), .val (.int ((p2 &&& (2147483647 : Int32)) % (6 : Int32))), .val (.int x3), .val (.int x4), .val (.int x5), .val (.int x6), .val (.int x7), .val (.ref sa), .val (.int (own_sc xs 0 0 0)), .unset, .unset, .unset] [(.ref sa)]))
    refine own_st (fun _ k => XS.iconst X2.here hx rfl (hb hby at_202) k) ?_
    show own_Gl _ _ _ _ _ _ _ (T2.setTop (mkF m 203 #[.val (.int p1), .val (.int p2), .val (.int ((p2 &&& (2147483647 : Int32)) % (6 : Int32))), .val (.int x3), .val (.int x4), .val (.int x5), .val (.int x6), .val (.int x7), .val (.ref sa), .val (.int (own_sc xs 0 0 0)), .unset, .unset, .unset] [(.int (0 : Int32)), (.ref sa)]))
    obtain ⟨_, _, ⟨T3, L3, k3, n3⟩, -, X3, ⟨Lc3, hQ3, l3, y3, z3⟩, st3⟩ := Jvm.LawKit.callS X2 hx (y := (⟨"org/benli/core/BernsteinSignChangesPinLaw", "isUntold", "([II)I"⟩ : MethodName)) hown (mvT hZ (hw _ (List.mem_of_getElem? (i := 6) rfl))) (mvT hZ (hw _ (List.mem_of_getElem? (i := 7) rfl))) (mvT hZ (hw _ (List.mem_of_getElem? (i := 8) rfl))) (mvT hZ (hw _ (List.mem_of_getElem? (i := 9) rfl))) (by decide) (backOf (W := 0) (own_r_isU l Z a0 hw [] sa ka za xs (0 : Int32) h1 n0 Zs1 fj1_0) hZ (hw _ (List.mem_of_getElem? (i := 9) rfl)) (hw _ (List.mem_of_getElem? (i := 8) rfl)) (by decide) (by decide)) (g := (mkF m 203 #[.val (.int p1), .val (.int p2), .val (.int ((p2 &&& (2147483647 : Int32)) % (6 : Int32))), .val (.int x3), .val (.int x4), .val (.int x5), .val (.int x6), .val (.int x7), .val (.ref sa), .val (.int (own_sc xs 0 0 0)), .unset, .unset, .unset] [(.int (0 : Int32)), (.ref sa)])) rfl (by rw [hml]; rfl) (argsL := [(.ref sa), (.int (0 : Int32))]) (rest := []) (lenOf own_pd144447691 rfl) rfl (by show 2 * 0 + _ ≤ _; exact Nat.le_of_eq rfl) (hb hby at_203) (fun _ _ => ⟨rfl, e2, (by decide : 1 + 0 ≤ room_1.cells), (by decide : 5 + 0 ≤ room_1.slots)⟩)
    dsimp only [Pt.U, Pt.locs, Pt.cells, Pt.slots] at X3 l3 y3 z3 st3 hQ3
    subst l3 y3 z3
    obtain ⟨hh3, eh03⟩ : ∃ z, T3.heap = z := ⟨_, rfl⟩
    rw [eh03] at hQ3
    obtain ⟨rfl, Nq3, eh3⟩ := hQ3
    have N3 := Fr.app N2 Nq3
    refine own_st st3 ?_
    have e3 : T3.heap = h1 := eh03.trans eh3
    show own_Gl _ _ _ _ _ _ _ (T3.setTop (mkF m 206 #[.val (.int p1), .val (.int p2), .val (.int ((p2 &&& (2147483647 : Int32)) % (6 : Int32))), .val (.int x3), .val (.int x4), .val (.int x5), .val (.int x6), .val (.int x7), .val (.ref sa), .val (.int (own_sc xs 0 0 0)), .unset, .unset, .unset] [(.int (own_isU xs za (0 : Int32)))]))
    refine own_st (fun _ k => XS.aload X3.here hx rfl (hb hby at_206) rfl rfl k) ?_
    show own_Gl _ _ _ _ _ _ _ (T3.setTop (mkF m 208 #[.val (.int p1), .val (.int p2), .val (.int ((p2 &&& (2147483647 : Int32)) % (6 : Int32))), .val (.int x3), .val (.int x4), .val (.int x5), .val (.int x6), .val (.int x7), .val (.ref sa), .val (.int (own_sc xs 0 0 0)), .unset, .unset, .unset] [(.ref sa), (.int (own_isU xs za (0 : Int32)))]))
    refine own_st (fun _ k => XS.iconst X3.here hx rfl (hb hby at_208) k) ?_
    show own_Gl _ _ _ _ _ _ _ (T3.setTop (mkF m 209 #[.val (.int p1), .val (.int p2), .val (.int ((p2 &&& (2147483647 : Int32)) % (6 : Int32))), .val (.int x3), .val (.int x4), .val (.int x5), .val (.int x6), .val (.int x7), .val (.ref sa), .val (.int (own_sc xs 0 0 0)), .unset, .unset, .unset] [(.int (1 : Int32)), (.ref sa), (.int (own_isU xs za (0 : Int32)))]))
    obtain ⟨_, _, ⟨T4, L4, k4, n4⟩, -, X4, ⟨Lc4, hQ4, l4, y4, z4⟩, st4⟩ := Jvm.LawKit.callS X3 hx (y := (⟨"org/benli/core/BernsteinSignChangesPinLaw", "isUntold", "([II)I"⟩ : MethodName)) hown (mvT hZ (hw _ (List.mem_of_getElem? (i := 6) rfl))) (mvT hZ (hw _ (List.mem_of_getElem? (i := 7) rfl))) (mvT hZ (hw _ (List.mem_of_getElem? (i := 8) rfl))) (mvT hZ (hw _ (List.mem_of_getElem? (i := 9) rfl))) (by decide) (backOf (W := 1) (own_r_isU l Z a0 hw [] sa ka za xs (1 : Int32) h1 n0 Zs1 fj1_0) hZ (hw _ (List.mem_of_getElem? (i := 9) rfl)) (hw _ (List.mem_of_getElem? (i := 8) rfl)) (by decide) (by decide)) (g := (mkF m 209 #[.val (.int p1), .val (.int p2), .val (.int ((p2 &&& (2147483647 : Int32)) % (6 : Int32))), .val (.int x3), .val (.int x4), .val (.int x5), .val (.int x6), .val (.int x7), .val (.ref sa), .val (.int (own_sc xs 0 0 0)), .unset, .unset, .unset] [(.int (1 : Int32)), (.ref sa), (.int (own_isU xs za (0 : Int32)))])) rfl (by rw [hml]; rfl) (argsL := [(.ref sa), (.int (1 : Int32))]) (rest := [(.int (own_isU xs za (0 : Int32)))]) (lenOf own_pd144447691 rfl) rfl (by show 2 * 0 + _ ≤ _; exact Nat.le_of_eq rfl) (hb hby at_209) (fun _ _ => ⟨rfl, e3, (by decide : 1 + 0 ≤ room_1.cells), (by decide : 5 + 0 ≤ room_1.slots)⟩)
    dsimp only [Pt.U, Pt.locs, Pt.cells, Pt.slots] at X4 l4 y4 z4 st4 hQ4
    subst l4 y4 z4
    obtain ⟨hh4, eh04⟩ : ∃ z, T4.heap = z := ⟨_, rfl⟩
    rw [eh04] at hQ4
    obtain ⟨rfl, Nq4, eh4⟩ := hQ4
    have N4 := Fr.app N3 Nq4
    refine own_st st4 ?_
    have e4 : T4.heap = h1 := eh04.trans eh4
    show own_Gl _ _ _ _ _ _ _ (T4.setTop (mkF m 212 #[.val (.int p1), .val (.int p2), .val (.int ((p2 &&& (2147483647 : Int32)) % (6 : Int32))), .val (.int x3), .val (.int x4), .val (.int x5), .val (.int x6), .val (.int x7), .val (.ref sa), .val (.int (own_sc xs 0 0 0)), .unset, .unset, .unset] [(.int (own_isU xs za (1 : Int32))), (.int (own_isU xs za (0 : Int32)))]))
    refine own_st (fun _ k => XS.iadd X4.here hx rfl (hb hby at_212) rfl k) ?_
    show own_Gl _ _ _ _ _ _ _ (T4.setTop (mkF m 213 #[.val (.int p1), .val (.int p2), .val (.int ((p2 &&& (2147483647 : Int32)) % (6 : Int32))), .val (.int x3), .val (.int x4), .val (.int x5), .val (.int x6), .val (.int x7), .val (.ref sa), .val (.int (own_sc xs 0 0 0)), .unset, .unset, .unset] [(.int ((own_isU xs za (0 : Int32)) + (own_isU xs za (1 : Int32))))]))
    refine own_st (fun _ k => XS.aload X4.here hx rfl (hb hby at_213) rfl rfl k) ?_
    show own_Gl _ _ _ _ _ _ _ (T4.setTop (mkF m 215 #[.val (.int p1), .val (.int p2), .val (.int ((p2 &&& (2147483647 : Int32)) % (6 : Int32))), .val (.int x3), .val (.int x4), .val (.int x5), .val (.int x6), .val (.int x7), .val (.ref sa), .val (.int (own_sc xs 0 0 0)), .unset, .unset, .unset] [(.ref sa), (.int ((own_isU xs za (0 : Int32)) + (own_isU xs za (1 : Int32))))]))
    refine own_st (fun _ k => XS.iconst X4.here hx rfl (hb hby at_215) k) ?_
    show own_Gl _ _ _ _ _ _ _ (T4.setTop (mkF m 216 #[.val (.int p1), .val (.int p2), .val (.int ((p2 &&& (2147483647 : Int32)) % (6 : Int32))), .val (.int x3), .val (.int x4), .val (.int x5), .val (.int x6), .val (.int x7), .val (.ref sa), .val (.int (own_sc xs 0 0 0)), .unset, .unset, .unset] [(.int (2 : Int32)), (.ref sa), (.int ((own_isU xs za (0 : Int32)) + (own_isU xs za (1 : Int32))))]))
    obtain ⟨_, _, ⟨T5, L5, k5, n5⟩, -, X5, ⟨Lc5, hQ5, l5, y5, z5⟩, st5⟩ := Jvm.LawKit.callS X4 hx (y := (⟨"org/benli/core/BernsteinSignChangesPinLaw", "isUntold", "([II)I"⟩ : MethodName)) hown (mvT hZ (hw _ (List.mem_of_getElem? (i := 6) rfl))) (mvT hZ (hw _ (List.mem_of_getElem? (i := 7) rfl))) (mvT hZ (hw _ (List.mem_of_getElem? (i := 8) rfl))) (mvT hZ (hw _ (List.mem_of_getElem? (i := 9) rfl))) (by decide) (backOf (W := 1) (own_r_isU l Z a0 hw [] sa ka za xs (2 : Int32) h1 n0 Zs1 fj1_0) hZ (hw _ (List.mem_of_getElem? (i := 9) rfl)) (hw _ (List.mem_of_getElem? (i := 8) rfl)) (by decide) (by decide)) (g := (mkF m 216 #[.val (.int p1), .val (.int p2), .val (.int ((p2 &&& (2147483647 : Int32)) % (6 : Int32))), .val (.int x3), .val (.int x4), .val (.int x5), .val (.int x6), .val (.int x7), .val (.ref sa), .val (.int (own_sc xs 0 0 0)), .unset, .unset, .unset] [(.int (2 : Int32)), (.ref sa), (.int ((own_isU xs za (0 : Int32)) + (own_isU xs za (1 : Int32))))])) rfl (by rw [hml]; rfl) (argsL := [(.ref sa), (.int (2 : Int32))]) (rest := [(.int ((own_isU xs za (0 : Int32)) + (own_isU xs za (1 : Int32))))]) (lenOf own_pd144447691 rfl) rfl (by show 2 * 0 + _ ≤ _; exact Nat.le_of_eq rfl) (hb hby at_216) (fun _ _ => ⟨rfl, e4, (by decide : 1 + 0 ≤ room_1.cells), (by decide : 5 + 0 ≤ room_1.slots)⟩)
    dsimp only [Pt.U, Pt.locs, Pt.cells, Pt.slots] at X5 l5 y5 z5 st5 hQ5
    subst l5 y5 z5
    obtain ⟨hh5, eh05⟩ : ∃ z, T5.heap = z := ⟨_, rfl⟩
    rw [eh05] at hQ5
    obtain ⟨rfl, Nq5, eh5⟩ := hQ5
    have N5 := Fr.app N4 Nq5
    refine own_st st5 ?_
    have e5 : T5.heap = h1 := eh05.trans eh5
    show own_Gl _ _ _ _ _ _ _ (T5.setTop (mkF m 219 #[.val (.int p1), .val (.int p2), .val (.int ((p2 &&& (2147483647 : Int32)) % (6 : Int32))), .val (.int x3), .val (.int x4), .val (.int x5), .val (.int x6), .val (.int x7), .val (.ref sa), .val (.int (own_sc xs 0 0 0)), .unset, .unset, .unset] [(.int (own_isU xs za (2 : Int32))), (.int ((own_isU xs za (0 : Int32)) + (own_isU xs za (1 : Int32))))]))
    refine own_st (fun _ k => XS.iadd X5.here hx rfl (hb hby at_219) rfl k) ?_
    show own_Gl _ _ _ _ _ _ _ (T5.setTop (mkF m 220 #[.val (.int p1), .val (.int p2), .val (.int ((p2 &&& (2147483647 : Int32)) % (6 : Int32))), .val (.int x3), .val (.int x4), .val (.int x5), .val (.int x6), .val (.int x7), .val (.ref sa), .val (.int (own_sc xs 0 0 0)), .unset, .unset, .unset] [(.int (((own_isU xs za (0 : Int32)) + (own_isU xs za (1 : Int32))) + (own_isU xs za (2 : Int32))))]))
    refine own_st (fun _ k => XS.aload X5.here hx rfl (hb hby at_220) rfl rfl k) ?_
    show own_Gl _ _ _ _ _ _ _ (T5.setTop (mkF m 222 #[.val (.int p1), .val (.int p2), .val (.int ((p2 &&& (2147483647 : Int32)) % (6 : Int32))), .val (.int x3), .val (.int x4), .val (.int x5), .val (.int x6), .val (.int x7), .val (.ref sa), .val (.int (own_sc xs 0 0 0)), .unset, .unset, .unset] [(.ref sa), (.int (((own_isU xs za (0 : Int32)) + (own_isU xs za (1 : Int32))) + (own_isU xs za (2 : Int32))))]))
    refine own_st (fun _ k => XS.iconst X5.here hx rfl (hb hby at_222) k) ?_
    show own_Gl _ _ _ _ _ _ _ (T5.setTop (mkF m 223 #[.val (.int p1), .val (.int p2), .val (.int ((p2 &&& (2147483647 : Int32)) % (6 : Int32))), .val (.int x3), .val (.int x4), .val (.int x5), .val (.int x6), .val (.int x7), .val (.ref sa), .val (.int (own_sc xs 0 0 0)), .unset, .unset, .unset] [(.int (3 : Int32)), (.ref sa), (.int (((own_isU xs za (0 : Int32)) + (own_isU xs za (1 : Int32))) + (own_isU xs za (2 : Int32))))]))
    obtain ⟨_, _, ⟨T6, L6, k6, n6⟩, -, X6, ⟨Lc6, hQ6, l6, y6, z6⟩, st6⟩ := Jvm.LawKit.callS X5 hx (y := (⟨"org/benli/core/BernsteinSignChangesPinLaw", "isUntold", "([II)I"⟩ : MethodName)) hown (mvT hZ (hw _ (List.mem_of_getElem? (i := 6) rfl))) (mvT hZ (hw _ (List.mem_of_getElem? (i := 7) rfl))) (mvT hZ (hw _ (List.mem_of_getElem? (i := 8) rfl))) (mvT hZ (hw _ (List.mem_of_getElem? (i := 9) rfl))) (by decide) (backOf (W := 1) (own_r_isU l Z a0 hw [] sa ka za xs (3 : Int32) h1 n0 Zs1 fj1_0) hZ (hw _ (List.mem_of_getElem? (i := 9) rfl)) (hw _ (List.mem_of_getElem? (i := 8) rfl)) (by decide) (by decide)) (g := (mkF m 223 #[.val (.int p1), .val (.int p2), .val (.int ((p2 &&& (2147483647 : Int32)) % (6 : Int32))), .val (.int x3), .val (.int x4), .val (.int x5), .val (.int x6), .val (.int x7), .val (.ref sa), .val (.int (own_sc xs 0 0 0)), .unset, .unset, .unset] [(.int (3 : Int32)), (.ref sa), (.int (((own_isU xs za (0 : Int32)) + (own_isU xs za (1 : Int32))) + (own_isU xs za (2 : Int32))))])) rfl (by rw [hml]; rfl) (argsL := [(.ref sa), (.int (3 : Int32))]) (rest := [(.int (((own_isU xs za (0 : Int32)) + (own_isU xs za (1 : Int32))) + (own_isU xs za (2 : Int32))))]) (lenOf own_pd144447691 rfl) rfl (by show 2 * 0 + _ ≤ _; exact Nat.le_of_eq rfl) (hb hby at_223) (fun _ _ => ⟨rfl, e5, (by decide : 1 + 0 ≤ room_1.cells), (by decide : 5 + 0 ≤ room_1.slots)⟩)
    dsimp only [Pt.U, Pt.locs, Pt.cells, Pt.slots] at X6 l6 y6 z6 st6 hQ6
    subst l6 y6 z6
    obtain ⟨hh6, eh06⟩ : ∃ z, T6.heap = z := ⟨_, rfl⟩
    rw [eh06] at hQ6
    obtain ⟨rfl, Nq6, eh6⟩ := hQ6
    have N6 := Fr.app N5 Nq6
    refine own_st st6 ?_
    have e6 : T6.heap = h1 := eh06.trans eh6
    show own_Gl _ _ _ _ _ _ _ (T6.setTop (mkF m 226 #[.val (.int p1), .val (.int p2), .val (.int ((p2 &&& (2147483647 : Int32)) % (6 : Int32))), .val (.int x3), .val (.int x4), .val (.int x5), .val (.int x6), .val (.int x7), .val (.ref sa), .val (.int (own_sc xs 0 0 0)), .unset, .unset, .unset] [(.int (own_isU xs za (3 : Int32))), (.int (((own_isU xs za (0 : Int32)) + (own_isU xs za (1 : Int32))) + (own_isU xs za (2 : Int32))))]))
    refine own_st (fun _ k => XS.iadd X6.here hx rfl (hb hby at_226) rfl k) ?_
    show own_Gl _ _ _ _ _ _ _ (T6.setTop (mkF m 227 #[.val (.int p1), .val (.int p2), .val (.int ((p2 &&& (2147483647 : Int32)) % (6 : Int32))), .val (.int x3), .val (.int x4), .val (.int x5), .val (.int x6), .val (.int x7), .val (.ref sa), .val (.int (own_sc xs 0 0 0)), .unset, .unset, .unset] [(.int ((((own_isU xs za (0 : Int32)) + (own_isU xs za (1 : Int32))) + (own_isU xs za (2 : Int32))) + (own_isU xs za (3 : Int32))))]))
    refine own_st (fun _ k => XS.aload X6.here hx rfl (hb hby at_227) rfl rfl k) ?_
    show own_Gl _ _ _ _ _ _ _ (T6.setTop (mkF m 229 #[.val (.int p1), .val (.int p2), .val (.int ((p2 &&& (2147483647 : Int32)) % (6 : Int32))), .val (.int x3), .val (.int x4), .val (.int x5), .val (.int x6), .val (.int x7), .val (.ref sa), .val (.int (own_sc xs 0 0 0)), .unset, .unset, .unset] [(.ref sa), (.int ((((own_isU xs za (0 : Int32)) + (own_isU xs za (1 : Int32))) + (own_isU xs za (2 : Int32))) + (own_isU xs za (3 : Int32))))]))
    refine own_st (fun _ k => XS.iconst X6.here hx rfl (hb hby at_229) k) ?_
    show own_Gl _ _ _ _ _ _ _ (T6.setTop (mkF m 230 #[.val (.int p1), .val (.int p2), .val (.int ((p2 &&& (2147483647 : Int32)) % (6 : Int32))), .val (.int x3), .val (.int x4), .val (.int x5), .val (.int x6), .val (.int x7), .val (.ref sa), .val (.int (own_sc xs 0 0 0)), .unset, .unset, .unset] [(.int (4 : Int32)), (.ref sa), (.int ((((own_isU xs za (0 : Int32)) + (own_isU xs za (1 : Int32))) + (own_isU xs za (2 : Int32))) + (own_isU xs za (3 : Int32))))]))
    obtain ⟨_, _, ⟨T7, L7, k7, n7⟩, -, X7, ⟨Lc7, hQ7, l7, y7, z7⟩, st7⟩ := Jvm.LawKit.callS X6 hx (y := (⟨"org/benli/core/BernsteinSignChangesPinLaw", "isUntold", "([II)I"⟩ : MethodName)) hown (mvT hZ (hw _ (List.mem_of_getElem? (i := 6) rfl))) (mvT hZ (hw _ (List.mem_of_getElem? (i := 7) rfl))) (mvT hZ (hw _ (List.mem_of_getElem? (i := 8) rfl))) (mvT hZ (hw _ (List.mem_of_getElem? (i := 9) rfl))) (by decide) (backOf (W := 1) (own_r_isU l Z a0 hw [] sa ka za xs (4 : Int32) h1 n0 Zs1 fj1_0) hZ (hw _ (List.mem_of_getElem? (i := 9) rfl)) (hw _ (List.mem_of_getElem? (i := 8) rfl)) (by decide) (by decide)) (g := (mkF m 230 #[.val (.int p1), .val (.int p2), .val (.int ((p2 &&& (2147483647 : Int32)) % (6 : Int32))), .val (.int x3), .val (.int x4), .val (.int x5), .val (.int x6), .val (.int x7), .val (.ref sa), .val (.int (own_sc xs 0 0 0)), .unset, .unset, .unset] [(.int (4 : Int32)), (.ref sa), (.int ((((own_isU xs za (0 : Int32)) + (own_isU xs za (1 : Int32))) + (own_isU xs za (2 : Int32))) + (own_isU xs za (3 : Int32))))])) rfl (by rw [hml]; rfl) (argsL := [(.ref sa), (.int (4 : Int32))]) (rest := [(.int ((((own_isU xs za (0 : Int32)) + (own_isU xs za (1 : Int32))) + (own_isU xs za (2 : Int32))) + (own_isU xs za (3 : Int32))))]) (lenOf own_pd144447691 rfl) rfl (by show 2 * 0 + _ ≤ _; exact Nat.le_of_eq rfl) (hb hby at_230) (fun _ _ => ⟨rfl, e6, (by decide : 1 + 0 ≤ room_1.cells), (by decide : 5 + 0 ≤ room_1.slots)⟩)
    dsimp only [Pt.U, Pt.locs, Pt.cells, Pt.slots] at X7 l7 y7 z7 st7 hQ7
    subst l7 y7 z7
    obtain ⟨hh7, eh07⟩ : ∃ z, T7.heap = z := ⟨_, rfl⟩
    rw [eh07] at hQ7
    obtain ⟨rfl, Nq7, eh7⟩ := hQ7
    have N7 := Fr.app N6 Nq7
    refine own_st st7 ?_
    have e7 : T7.heap = h1 := eh07.trans eh7
    show own_Gl _ _ _ _ _ _ _ (T7.setTop (mkF m 233 #[.val (.int p1), .val (.int p2), .val (.int ((p2 &&& (2147483647 : Int32)) % (6 : Int32))), .val (.int x3), .val (.int x4), .val (.int x5), .val (.int x6), .val (.int x7), .val (.ref sa), .val (.int (own_sc xs 0 0 0)), .unset, .unset, .unset] [(.int (own_isU xs za (4 : Int32))), (.int ((((own_isU xs za (0 : Int32)) + (own_isU xs za (1 : Int32))) + (own_isU xs za (2 : Int32))) + (own_isU xs za (3 : Int32))))]))
    refine own_st (fun _ k => XS.iadd X7.here hx rfl (hb hby at_233) rfl k) ?_
    show own_Gl _ _ _ _ _ _ _ (T7.setTop (mkF m 234 #[.val (.int p1), .val (.int p2), .val (.int ((p2 &&& (2147483647 : Int32)) % (6 : Int32))), .val (.int x3), .val (.int x4), .val (.int x5), .val (.int x6), .val (.int x7), .val (.ref sa), .val (.int (own_sc xs 0 0 0)), .unset, .unset, .unset] [(.int (((((own_isU xs za (0 : Int32)) + (own_isU xs za (1 : Int32))) + (own_isU xs za (2 : Int32))) + (own_isU xs za (3 : Int32))) + (own_isU xs za (4 : Int32))))]))
    refine own_st (fun _ k => XS.istore X7.here hx rfl (hb hby at_234) rfl (l' := #[.val (.int p1), .val (.int p2), .val (.int ((p2 &&& (2147483647 : Int32)) % (6 : Int32))), .val (.int x3), .val (.int x4), .val (.int x5), .val (.int x6), .val (.int x7), .val (.ref sa), .val (.int (own_sc xs 0 0 0)), .val (.int (((((own_isU xs za (0 : Int32)) + (own_isU xs za (1 : Int32))) + (own_isU xs za (2 : Int32))) + (own_isU xs za (3 : Int32))) + (own_isU xs za (4 : Int32)))), .unset, .unset]) rfl k) ?_
    show own_Gl _ _ _ _ _ _ _ (T7.setTop (mkF m 236 #[.val (.int p1), .val (.int p2), .val (.int ((p2 &&& (2147483647 : Int32)) % (6 : Int32))), .val (.int x3), .val (.int x4), .val (.int x5), .val (.int x6), .val (.int x7), .val (.ref sa), .val (.int (own_sc xs 0 0 0)), .val (.int (((((own_isU xs za (0 : Int32)) + (own_isU xs za (1 : Int32))) + (own_isU xs za (2 : Int32))) + (own_isU xs za (3 : Int32))) + (own_isU xs za (4 : Int32)))), .unset, .unset] []))
    refine own_st (fun _ k => XS.aload X7.here hx rfl (hb hby at_236) rfl rfl k) ?_
    show own_Gl _ _ _ _ _ _ _ (T7.setTop (mkF m 238 #[.val (.int p1), .val (.int p2), .val (.int ((p2 &&& (2147483647 : Int32)) % (6 : Int32))), .val (.int x3), .val (.int x4), .val (.int x5), .val (.int x6), .val (.int x7), .val (.ref sa), .val (.int (own_sc xs 0 0 0)), .val (.int (((((own_isU xs za (0 : Int32)) + (own_isU xs za (1 : Int32))) + (own_isU xs za (2 : Int32))) + (own_isU xs za (3 : Int32))) + (own_isU xs za (4 : Int32)))), .unset, .unset] [(.ref sa)]))
    refine own_st (fun _ k => XS.iconst X7.here hx rfl (hb hby at_238) k) ?_
    show own_Gl _ _ _ _ _ _ _ (T7.setTop (mkF m 239 #[.val (.int p1), .val (.int p2), .val (.int ((p2 &&& (2147483647 : Int32)) % (6 : Int32))), .val (.int x3), .val (.int x4), .val (.int x5), .val (.int x6), .val (.int x7), .val (.ref sa), .val (.int (own_sc xs 0 0 0)), .val (.int (((((own_isU xs za (0 : Int32)) + (own_isU xs za (1 : Int32))) + (own_isU xs za (2 : Int32))) + (own_isU xs za (3 : Int32))) + (own_isU xs za (4 : Int32)))), .unset, .unset] [(.int (0 : Int32)), (.ref sa)]))
    obtain ⟨_, _, ⟨T8, L8, k8, n8⟩, -, X8, ⟨Lc8, hQ8, l8, y8, z8⟩, st8⟩ := Jvm.LawKit.callS X7 hx (y := (⟨"org/benli/core/BernsteinSignChangesPinLaw", "isKnown", "([II)I"⟩ : MethodName)) hown (mvT hZ (hw _ (List.mem_of_getElem? (i := 13) rfl))) (mvT hZ (hw _ (List.mem_of_getElem? (i := 14) rfl))) (mvT hZ (hw _ (List.mem_of_getElem? (i := 8) rfl))) (mvT hZ (hw _ (List.mem_of_getElem? (i := 15) rfl))) (by decide) (backOf (W := 0) (own_r_isK l Z a0 hw [] sa ka za xs (0 : Int32) h1 n0 Zs1 fj1_0) hZ (hw _ (List.mem_of_getElem? (i := 15) rfl)) (hw _ (List.mem_of_getElem? (i := 8) rfl)) (by decide) (by decide)) (g := (mkF m 239 #[.val (.int p1), .val (.int p2), .val (.int ((p2 &&& (2147483647 : Int32)) % (6 : Int32))), .val (.int x3), .val (.int x4), .val (.int x5), .val (.int x6), .val (.int x7), .val (.ref sa), .val (.int (own_sc xs 0 0 0)), .val (.int (((((own_isU xs za (0 : Int32)) + (own_isU xs za (1 : Int32))) + (own_isU xs za (2 : Int32))) + (own_isU xs za (3 : Int32))) + (own_isU xs za (4 : Int32)))), .unset, .unset] [(.int (0 : Int32)), (.ref sa)])) rfl (by rw [hml]; rfl) (argsL := [(.ref sa), (.int (0 : Int32))]) (rest := []) (lenOf own_pd144447691 rfl) rfl (by show 2 * 0 + _ ≤ _; exact Nat.le_of_eq rfl) (hb hby at_239) (fun _ _ => ⟨rfl, e7, (by decide : 1 + 0 ≤ room_1.cells), (by decide : 5 + 0 ≤ room_1.slots)⟩)
    dsimp only [Pt.U, Pt.locs, Pt.cells, Pt.slots] at X8 l8 y8 z8 st8 hQ8
    subst l8 y8 z8
    obtain ⟨hh8, eh08⟩ : ∃ z, T8.heap = z := ⟨_, rfl⟩
    rw [eh08] at hQ8
    obtain ⟨rfl, Nq8, eh8⟩ := hQ8
    have N8 := Fr.app N7 Nq8
    refine own_st st8 ?_
    have e8 : T8.heap = h1 := eh08.trans eh8
    show own_Gl _ _ _ _ _ _ _ (T8.setTop (mkF m 242 #[.val (.int p1), .val (.int p2), .val (.int ((p2 &&& (2147483647 : Int32)) % (6 : Int32))), .val (.int x3), .val (.int x4), .val (.int x5), .val (.int x6), .val (.int x7), .val (.ref sa), .val (.int (own_sc xs 0 0 0)), .val (.int (((((own_isU xs za (0 : Int32)) + (own_isU xs za (1 : Int32))) + (own_isU xs za (2 : Int32))) + (own_isU xs za (3 : Int32))) + (own_isU xs za (4 : Int32)))), .unset, .unset] [(.int (own_isK xs za (0 : Int32)))]))
    refine own_st (fun _ k => XS.aload X8.here hx rfl (hb hby at_242) rfl rfl k) ?_
    show own_Gl _ _ _ _ _ _ _ (T8.setTop (mkF m 244 #[.val (.int p1), .val (.int p2), .val (.int ((p2 &&& (2147483647 : Int32)) % (6 : Int32))), .val (.int x3), .val (.int x4), .val (.int x5), .val (.int x6), .val (.int x7), .val (.ref sa), .val (.int (own_sc xs 0 0 0)), .val (.int (((((own_isU xs za (0 : Int32)) + (own_isU xs za (1 : Int32))) + (own_isU xs za (2 : Int32))) + (own_isU xs za (3 : Int32))) + (own_isU xs za (4 : Int32)))), .unset, .unset] [(.ref sa), (.int (own_isK xs za (0 : Int32)))]))
    refine own_st (fun _ k => XS.iconst X8.here hx rfl (hb hby at_244) k) ?_
    show own_Gl _ _ _ _ _ _ _ (T8.setTop (mkF m 245 #[.val (.int p1), .val (.int p2), .val (.int ((p2 &&& (2147483647 : Int32)) % (6 : Int32))), .val (.int x3), .val (.int x4), .val (.int x5), .val (.int x6), .val (.int x7), .val (.ref sa), .val (.int (own_sc xs 0 0 0)), .val (.int (((((own_isU xs za (0 : Int32)) + (own_isU xs za (1 : Int32))) + (own_isU xs za (2 : Int32))) + (own_isU xs za (3 : Int32))) + (own_isU xs za (4 : Int32)))), .unset, .unset] [(.int (1 : Int32)), (.ref sa), (.int (own_isK xs za (0 : Int32)))]))
    obtain ⟨_, _, ⟨T9, L9, k9, n9⟩, -, X9, ⟨Lc9, hQ9, l9, y9, z9⟩, st9⟩ := Jvm.LawKit.callS X8 hx (y := (⟨"org/benli/core/BernsteinSignChangesPinLaw", "isKnown", "([II)I"⟩ : MethodName)) hown (mvT hZ (hw _ (List.mem_of_getElem? (i := 13) rfl))) (mvT hZ (hw _ (List.mem_of_getElem? (i := 14) rfl))) (mvT hZ (hw _ (List.mem_of_getElem? (i := 8) rfl))) (mvT hZ (hw _ (List.mem_of_getElem? (i := 15) rfl))) (by decide) (backOf (W := 1) (own_r_isK l Z a0 hw [] sa ka za xs (1 : Int32) h1 n0 Zs1 fj1_0) hZ (hw _ (List.mem_of_getElem? (i := 15) rfl)) (hw _ (List.mem_of_getElem? (i := 8) rfl)) (by decide) (by decide)) (g := (mkF m 245 #[.val (.int p1), .val (.int p2), .val (.int ((p2 &&& (2147483647 : Int32)) % (6 : Int32))), .val (.int x3), .val (.int x4), .val (.int x5), .val (.int x6), .val (.int x7), .val (.ref sa), .val (.int (own_sc xs 0 0 0)), .val (.int (((((own_isU xs za (0 : Int32)) + (own_isU xs za (1 : Int32))) + (own_isU xs za (2 : Int32))) + (own_isU xs za (3 : Int32))) + (own_isU xs za (4 : Int32)))), .unset, .unset] [(.int (1 : Int32)), (.ref sa), (.int (own_isK xs za (0 : Int32)))])) rfl (by rw [hml]; rfl) (argsL := [(.ref sa), (.int (1 : Int32))]) (rest := [(.int (own_isK xs za (0 : Int32)))]) (lenOf own_pd144447691 rfl) rfl (by show 2 * 0 + _ ≤ _; exact Nat.le_of_eq rfl) (hb hby at_245) (fun _ _ => ⟨rfl, e8, (by decide : 1 + 0 ≤ room_1.cells), (by decide : 5 + 0 ≤ room_1.slots)⟩)
    dsimp only [Pt.U, Pt.locs, Pt.cells, Pt.slots] at X9 l9 y9 z9 st9 hQ9
    subst l9 y9 z9
    obtain ⟨hh9, eh09⟩ : ∃ z, T9.heap = z := ⟨_, rfl⟩
    rw [eh09] at hQ9
    obtain ⟨rfl, Nq9, eh9⟩ := hQ9
    have N9 := Fr.app N8 Nq9
    refine own_st st9 ?_
    have e9 : T9.heap = h1 := eh09.trans eh9
    show own_Gl _ _ _ _ _ _ _ (T9.setTop (mkF m 248 #[.val (.int p1), .val (.int p2), .val (.int ((p2 &&& (2147483647 : Int32)) % (6 : Int32))), .val (.int x3), .val (.int x4), .val (.int x5), .val (.int x6), .val (.int x7), .val (.ref sa), .val (.int (own_sc xs 0 0 0)), .val (.int (((((own_isU xs za (0 : Int32)) + (own_isU xs za (1 : Int32))) + (own_isU xs za (2 : Int32))) + (own_isU xs za (3 : Int32))) + (own_isU xs za (4 : Int32)))), .unset, .unset] [(.int (own_isK xs za (1 : Int32))), (.int (own_isK xs za (0 : Int32)))]))
    refine own_st (fun _ k => XS.iadd X9.here hx rfl (hb hby at_248) rfl k) ?_
    show own_Gl _ _ _ _ _ _ _ (T9.setTop (mkF m 249 #[.val (.int p1), .val (.int p2), .val (.int ((p2 &&& (2147483647 : Int32)) % (6 : Int32))), .val (.int x3), .val (.int x4), .val (.int x5), .val (.int x6), .val (.int x7), .val (.ref sa), .val (.int (own_sc xs 0 0 0)), .val (.int (((((own_isU xs za (0 : Int32)) + (own_isU xs za (1 : Int32))) + (own_isU xs za (2 : Int32))) + (own_isU xs za (3 : Int32))) + (own_isU xs za (4 : Int32)))), .unset, .unset] [(.int ((own_isK xs za (0 : Int32)) + (own_isK xs za (1 : Int32))))]))
    refine own_st (fun _ k => XS.aload X9.here hx rfl (hb hby at_249) rfl rfl k) ?_
    show own_Gl _ _ _ _ _ _ _ (T9.setTop (mkF m 251 #[.val (.int p1), .val (.int p2), .val (.int ((p2 &&& (2147483647 : Int32)) % (6 : Int32))), .val (.int x3), .val (.int x4), .val (.int x5), .val (.int x6), .val (.int x7), .val (.ref sa), .val (.int (own_sc xs 0 0 0)), .val (.int (((((own_isU xs za (0 : Int32)) + (own_isU xs za (1 : Int32))) + (own_isU xs za (2 : Int32))) + (own_isU xs za (3 : Int32))) + (own_isU xs za (4 : Int32)))), .unset, .unset] [(.ref sa), (.int ((own_isK xs za (0 : Int32)) + (own_isK xs za (1 : Int32))))]))
    refine own_st (fun _ k => XS.iconst X9.here hx rfl (hb hby at_251) k) ?_
    show own_Gl _ _ _ _ _ _ _ (T9.setTop (mkF m 252 #[.val (.int p1), .val (.int p2), .val (.int ((p2 &&& (2147483647 : Int32)) % (6 : Int32))), .val (.int x3), .val (.int x4), .val (.int x5), .val (.int x6), .val (.int x7), .val (.ref sa), .val (.int (own_sc xs 0 0 0)), .val (.int (((((own_isU xs za (0 : Int32)) + (own_isU xs za (1 : Int32))) + (own_isU xs za (2 : Int32))) + (own_isU xs za (3 : Int32))) + (own_isU xs za (4 : Int32)))), .unset, .unset] [(.int (2 : Int32)), (.ref sa), (.int ((own_isK xs za (0 : Int32)) + (own_isK xs za (1 : Int32))))]))
    obtain ⟨_, _, ⟨T10, L10, k10, n10⟩, -, X10, ⟨Lc10, hQ10, l10, y10, z10⟩, st10⟩ := Jvm.LawKit.callS X9 hx (y := (⟨"org/benli/core/BernsteinSignChangesPinLaw", "isKnown", "([II)I"⟩ : MethodName)) hown (mvT hZ (hw _ (List.mem_of_getElem? (i := 13) rfl))) (mvT hZ (hw _ (List.mem_of_getElem? (i := 14) rfl))) (mvT hZ (hw _ (List.mem_of_getElem? (i := 8) rfl))) (mvT hZ (hw _ (List.mem_of_getElem? (i := 15) rfl))) (by decide) (backOf (W := 1) (own_r_isK l Z a0 hw [] sa ka za xs (2 : Int32) h1 n0 Zs1 fj1_0) hZ (hw _ (List.mem_of_getElem? (i := 15) rfl)) (hw _ (List.mem_of_getElem? (i := 8) rfl)) (by decide) (by decide)) (g := (mkF m 252 #[.val (.int p1), .val (.int p2), .val (.int ((p2 &&& (2147483647 : Int32)) % (6 : Int32))), .val (.int x3), .val (.int x4), .val (.int x5), .val (.int x6), .val (.int x7), .val (.ref sa), .val (.int (own_sc xs 0 0 0)), .val (.int (((((own_isU xs za (0 : Int32)) + (own_isU xs za (1 : Int32))) + (own_isU xs za (2 : Int32))) + (own_isU xs za (3 : Int32))) + (own_isU xs za (4 : Int32)))), .unset, .unset] [(.int (2 : Int32)), (.ref sa), (.int ((own_isK xs za (0 : Int32)) + (own_isK xs za (1 : Int32))))])) rfl (by rw [hml]; rfl) (argsL := [(.ref sa), (.int (2 : Int32))]) (rest := [(.int ((own_isK xs za (0 : Int32)) + (own_isK xs za (1 : Int32))))]) (lenOf own_pd144447691 rfl) rfl (by show 2 * 0 + _ ≤ _; exact Nat.le_of_eq rfl) (hb hby at_252) (fun _ _ => ⟨rfl, e9, (by decide : 1 + 0 ≤ room_1.cells), (by decide : 5 + 0 ≤ room_1.slots)⟩)
    dsimp only [Pt.U, Pt.locs, Pt.cells, Pt.slots] at X10 l10 y10 z10 st10 hQ10
    subst l10 y10 z10
    obtain ⟨hh10, eh010⟩ : ∃ z, T10.heap = z := ⟨_, rfl⟩
    rw [eh010] at hQ10
    obtain ⟨rfl, Nq10, eh10⟩ := hQ10
    have N10 := Fr.app N9 Nq10
    refine own_st st10 ?_
    have e10 : T10.heap = h1 := eh010.trans eh10
    show own_Gl _ _ _ _ _ _ _ (T10.setTop (mkF m 255 #[.val (.int p1), .val (.int p2), .val (.int ((p2 &&& (2147483647 : Int32)) % (6 : Int32))), .val (.int x3), .val (.int x4), .val (.int x5), .val (.int x6), .val (.int x7), .val (.ref sa), .val (.int (own_sc xs 0 0 0)), .val (.int (((((own_isU xs za (0 : Int32)) + (own_isU xs za (1 : Int32))) + (own_isU xs za (2 : Int32))) + (own_isU xs za (3 : Int32))) + (own_isU xs za (4 : Int32)))), .unset, .unset] [(.int (own_isK xs za (2 : Int32))), (.int ((own_isK xs za (0 : Int32)) + (own_isK xs za (1 : Int32))))]))
    refine own_st (fun _ k => XS.iadd X10.here hx rfl (hb hby at_255) rfl k) ?_
    show own_Gl _ _ _ _ _ _ _ (T10.setTop (mkF m 256 #[.val (.int p1), .val (.int p2), .val (.int ((p2 &&& (2147483647 : Int32)) % (6 : Int32))), .val (.int x3), .val (.int x4), .val (.int x5), .val (.int x6), .val (.int x7), .val (.ref sa), .val (.int (own_sc xs 0 0 0)), .val (.int (((((own_isU xs za (0 : Int32)) + (own_isU xs za (1 : Int32))) + (own_isU xs za (2 : Int32))) + (own_isU xs za (3 : Int32))) + (own_isU xs za (4 : Int32)))), .unset, .unset] [(.int (((own_isK xs za (0 : Int32)) + (own_isK xs za (1 : Int32))) + (own_isK xs za (2 : Int32))))]))
    refine own_st (fun _ k => XS.aload X10.here hx rfl (hb hby at_256) rfl rfl k) ?_
    show own_Gl _ _ _ _ _ _ _ (T10.setTop (mkF m 258 #[.val (.int p1), .val (.int p2), .val (.int ((p2 &&& (2147483647 : Int32)) % (6 : Int32))), .val (.int x3), .val (.int x4), .val (.int x5), .val (.int x6), .val (.int x7), .val (.ref sa), .val (.int (own_sc xs 0 0 0)), .val (.int (((((own_isU xs za (0 : Int32)) + (own_isU xs za (1 : Int32))) + (own_isU xs za (2 : Int32))) + (own_isU xs za (3 : Int32))) + (own_isU xs za (4 : Int32)))), .unset, .unset] [(.ref sa), (.int (((own_isK xs za (0 : Int32)) + (own_isK xs za (1 : Int32))) + (own_isK xs za (2 : Int32))))]))
    refine own_st (fun _ k => XS.iconst X10.here hx rfl (hb hby at_258) k) ?_
    show own_Gl _ _ _ _ _ _ _ (T10.setTop (mkF m 259 #[.val (.int p1), .val (.int p2), .val (.int ((p2 &&& (2147483647 : Int32)) % (6 : Int32))), .val (.int x3), .val (.int x4), .val (.int x5), .val (.int x6), .val (.int x7), .val (.ref sa), .val (.int (own_sc xs 0 0 0)), .val (.int (((((own_isU xs za (0 : Int32)) + (own_isU xs za (1 : Int32))) + (own_isU xs za (2 : Int32))) + (own_isU xs za (3 : Int32))) + (own_isU xs za (4 : Int32)))), .unset, .unset] [(.int (3 : Int32)), (.ref sa), (.int (((own_isK xs za (0 : Int32)) + (own_isK xs za (1 : Int32))) + (own_isK xs za (2 : Int32))))]))
    obtain ⟨_, _, ⟨T11, L11, k11, n11⟩, -, X11, ⟨Lc11, hQ11, l11, y11, z11⟩, st11⟩ := Jvm.LawKit.callS X10 hx (y := (⟨"org/benli/core/BernsteinSignChangesPinLaw", "isKnown", "([II)I"⟩ : MethodName)) hown (mvT hZ (hw _ (List.mem_of_getElem? (i := 13) rfl))) (mvT hZ (hw _ (List.mem_of_getElem? (i := 14) rfl))) (mvT hZ (hw _ (List.mem_of_getElem? (i := 8) rfl))) (mvT hZ (hw _ (List.mem_of_getElem? (i := 15) rfl))) (by decide) (backOf (W := 1) (own_r_isK l Z a0 hw [] sa ka za xs (3 : Int32) h1 n0 Zs1 fj1_0) hZ (hw _ (List.mem_of_getElem? (i := 15) rfl)) (hw _ (List.mem_of_getElem? (i := 8) rfl)) (by decide) (by decide)) (g := (mkF m 259 #[.val (.int p1), .val (.int p2), .val (.int ((p2 &&& (2147483647 : Int32)) % (6 : Int32))), .val (.int x3), .val (.int x4), .val (.int x5), .val (.int x6), .val (.int x7), .val (.ref sa), .val (.int (own_sc xs 0 0 0)), .val (.int (((((own_isU xs za (0 : Int32)) + (own_isU xs za (1 : Int32))) + (own_isU xs za (2 : Int32))) + (own_isU xs za (3 : Int32))) + (own_isU xs za (4 : Int32)))), .unset, .unset] [(.int (3 : Int32)), (.ref sa), (.int (((own_isK xs za (0 : Int32)) + (own_isK xs za (1 : Int32))) + (own_isK xs za (2 : Int32))))])) rfl (by rw [hml]; rfl) (argsL := [(.ref sa), (.int (3 : Int32))]) (rest := [(.int (((own_isK xs za (0 : Int32)) + (own_isK xs za (1 : Int32))) + (own_isK xs za (2 : Int32))))]) (lenOf own_pd144447691 rfl) rfl (by show 2 * 0 + _ ≤ _; exact Nat.le_of_eq rfl) (hb hby at_259) (fun _ _ => ⟨rfl, e10, (by decide : 1 + 0 ≤ room_1.cells), (by decide : 5 + 0 ≤ room_1.slots)⟩)
    dsimp only [Pt.U, Pt.locs, Pt.cells, Pt.slots] at X11 l11 y11 z11 st11 hQ11
    subst l11 y11 z11
    obtain ⟨hh11, eh011⟩ : ∃ z, T11.heap = z := ⟨_, rfl⟩
    rw [eh011] at hQ11
    obtain ⟨rfl, Nq11, eh11⟩ := hQ11
    have N11 := Fr.app N10 Nq11
    refine own_st st11 ?_
    have e11 : T11.heap = h1 := eh011.trans eh11
    show own_Gl _ _ _ _ _ _ _ (T11.setTop (mkF m 262 #[.val (.int p1), .val (.int p2), .val (.int ((p2 &&& (2147483647 : Int32)) % (6 : Int32))), .val (.int x3), .val (.int x4), .val (.int x5), .val (.int x6), .val (.int x7), .val (.ref sa), .val (.int (own_sc xs 0 0 0)), .val (.int (((((own_isU xs za (0 : Int32)) + (own_isU xs za (1 : Int32))) + (own_isU xs za (2 : Int32))) + (own_isU xs za (3 : Int32))) + (own_isU xs za (4 : Int32)))), .unset, .unset] [(.int (own_isK xs za (3 : Int32))), (.int (((own_isK xs za (0 : Int32)) + (own_isK xs za (1 : Int32))) + (own_isK xs za (2 : Int32))))]))
    refine own_st (fun _ k => XS.iadd X11.here hx rfl (hb hby at_262) rfl k) ?_
    show own_Gl _ _ _ _ _ _ _ (T11.setTop (mkF m 263 #[.val (.int p1), .val (.int p2), .val (.int ((p2 &&& (2147483647 : Int32)) % (6 : Int32))), .val (.int x3), .val (.int x4), .val (.int x5), .val (.int x6), .val (.int x7), .val (.ref sa), .val (.int (own_sc xs 0 0 0)), .val (.int (((((own_isU xs za (0 : Int32)) + (own_isU xs za (1 : Int32))) + (own_isU xs za (2 : Int32))) + (own_isU xs za (3 : Int32))) + (own_isU xs za (4 : Int32)))), .unset, .unset] [(.int ((((own_isK xs za (0 : Int32)) + (own_isK xs za (1 : Int32))) + (own_isK xs za (2 : Int32))) + (own_isK xs za (3 : Int32))))]))
    refine own_st (fun _ k => XS.aload X11.here hx rfl (hb hby at_263) rfl rfl k) ?_
    show own_Gl _ _ _ _ _ _ _ (T11.setTop (mkF m 265 #[.val (.int p1), .val (.int p2), .val (.int ((p2 &&& (2147483647 : Int32)) % (6 : Int32))), .val (.int x3), .val (.int x4), .val (.int x5), .val (.int x6), .val (.int x7), .val (.ref sa), .val (.int (own_sc xs 0 0 0)), .val (.int (((((own_isU xs za (0 : Int32)) + (own_isU xs za (1 : Int32))) + (own_isU xs za (2 : Int32))) + (own_isU xs za (3 : Int32))) + (own_isU xs za (4 : Int32)))), .unset, .unset] [(.ref sa), (.int ((((own_isK xs za (0 : Int32)) + (own_isK xs za (1 : Int32))) + (own_isK xs za (2 : Int32))) + (own_isK xs za (3 : Int32))))]))
    refine own_st (fun _ k => XS.iconst X11.here hx rfl (hb hby at_265) k) ?_
    show own_Gl _ _ _ _ _ _ _ (T11.setTop (mkF m 266 #[.val (.int p1), .val (.int p2), .val (.int ((p2 &&& (2147483647 : Int32)) % (6 : Int32))), .val (.int x3), .val (.int x4), .val (.int x5), .val (.int x6), .val (.int x7), .val (.ref sa), .val (.int (own_sc xs 0 0 0)), .val (.int (((((own_isU xs za (0 : Int32)) + (own_isU xs za (1 : Int32))) + (own_isU xs za (2 : Int32))) + (own_isU xs za (3 : Int32))) + (own_isU xs za (4 : Int32)))), .unset, .unset] [(.int (4 : Int32)), (.ref sa), (.int ((((own_isK xs za (0 : Int32)) + (own_isK xs za (1 : Int32))) + (own_isK xs za (2 : Int32))) + (own_isK xs za (3 : Int32))))]))
    obtain ⟨_, _, ⟨T12, L12, k12, n12⟩, -, X12, ⟨Lc12, hQ12, l12, y12, z12⟩, st12⟩ := Jvm.LawKit.callS X11 hx (y := (⟨"org/benli/core/BernsteinSignChangesPinLaw", "isKnown", "([II)I"⟩ : MethodName)) hown (mvT hZ (hw _ (List.mem_of_getElem? (i := 13) rfl))) (mvT hZ (hw _ (List.mem_of_getElem? (i := 14) rfl))) (mvT hZ (hw _ (List.mem_of_getElem? (i := 8) rfl))) (mvT hZ (hw _ (List.mem_of_getElem? (i := 15) rfl))) (by decide) (backOf (W := 1) (own_r_isK l Z a0 hw [] sa ka za xs (4 : Int32) h1 n0 Zs1 fj1_0) hZ (hw _ (List.mem_of_getElem? (i := 15) rfl)) (hw _ (List.mem_of_getElem? (i := 8) rfl)) (by decide) (by decide)) (g := (mkF m 266 #[.val (.int p1), .val (.int p2), .val (.int ((p2 &&& (2147483647 : Int32)) % (6 : Int32))), .val (.int x3), .val (.int x4), .val (.int x5), .val (.int x6), .val (.int x7), .val (.ref sa), .val (.int (own_sc xs 0 0 0)), .val (.int (((((own_isU xs za (0 : Int32)) + (own_isU xs za (1 : Int32))) + (own_isU xs za (2 : Int32))) + (own_isU xs za (3 : Int32))) + (own_isU xs za (4 : Int32)))), .unset, .unset] [(.int (4 : Int32)), (.ref sa), (.int ((((own_isK xs za (0 : Int32)) + (own_isK xs za (1 : Int32))) + (own_isK xs za (2 : Int32))) + (own_isK xs za (3 : Int32))))])) rfl (by rw [hml]; rfl) (argsL := [(.ref sa), (.int (4 : Int32))]) (rest := [(.int ((((own_isK xs za (0 : Int32)) + (own_isK xs za (1 : Int32))) + (own_isK xs za (2 : Int32))) + (own_isK xs za (3 : Int32))))]) (lenOf own_pd144447691 rfl) rfl (by show 2 * 0 + _ ≤ _; exact Nat.le_of_eq rfl) (hb hby at_266) (fun _ _ => ⟨rfl, e11, (by decide : 1 + 0 ≤ room_1.cells), (by decide : 5 + 0 ≤ room_1.slots)⟩)
    dsimp only [Pt.U, Pt.locs, Pt.cells, Pt.slots] at X12 l12 y12 z12 st12 hQ12
    subst l12 y12 z12
    obtain ⟨hh12, eh012⟩ : ∃ z, T12.heap = z := ⟨_, rfl⟩
    rw [eh012] at hQ12
    obtain ⟨rfl, Nq12, eh12⟩ := hQ12
    have N12 := Fr.app N11 Nq12
    refine own_st st12 ?_
    have e12 : T12.heap = h1 := eh012.trans eh12
    show own_Gl _ _ _ _ _ _ _ (T12.setTop (mkF m 269 #[.val (.int p1), .val (.int p2), .val (.int ((p2 &&& (2147483647 : Int32)) % (6 : Int32))), .val (.int x3), .val (.int x4), .val (.int x5), .val (.int x6), .val (.int x7), .val (.ref sa), .val (.int (own_sc xs 0 0 0)), .val (.int (((((own_isU xs za (0 : Int32)) + (own_isU xs za (1 : Int32))) + (own_isU xs za (2 : Int32))) + (own_isU xs za (3 : Int32))) + (own_isU xs za (4 : Int32)))), .unset, .unset] [(.int (own_isK xs za (4 : Int32))), (.int ((((own_isK xs za (0 : Int32)) + (own_isK xs za (1 : Int32))) + (own_isK xs za (2 : Int32))) + (own_isK xs za (3 : Int32))))]))
    refine own_st (fun _ k => XS.iadd X12.here hx rfl (hb hby at_269) rfl k) ?_
    show own_Gl _ _ _ _ _ _ _ (T12.setTop (mkF m 270 #[.val (.int p1), .val (.int p2), .val (.int ((p2 &&& (2147483647 : Int32)) % (6 : Int32))), .val (.int x3), .val (.int x4), .val (.int x5), .val (.int x6), .val (.int x7), .val (.ref sa), .val (.int (own_sc xs 0 0 0)), .val (.int (((((own_isU xs za (0 : Int32)) + (own_isU xs za (1 : Int32))) + (own_isU xs za (2 : Int32))) + (own_isU xs za (3 : Int32))) + (own_isU xs za (4 : Int32)))), .unset, .unset] [(.int (((((own_isK xs za (0 : Int32)) + (own_isK xs za (1 : Int32))) + (own_isK xs za (2 : Int32))) + (own_isK xs za (3 : Int32))) + (own_isK xs za (4 : Int32))))]))
    refine own_st (fun _ k => XS.istore X12.here hx rfl (hb hby at_270) rfl (l' := #[.val (.int p1), .val (.int p2), .val (.int ((p2 &&& (2147483647 : Int32)) % (6 : Int32))), .val (.int x3), .val (.int x4), .val (.int x5), .val (.int x6), .val (.int x7), .val (.ref sa), .val (.int (own_sc xs 0 0 0)), .val (.int (((((own_isU xs za (0 : Int32)) + (own_isU xs za (1 : Int32))) + (own_isU xs za (2 : Int32))) + (own_isU xs za (3 : Int32))) + (own_isU xs za (4 : Int32)))), .val (.int (((((own_isK xs za (0 : Int32)) + (own_isK xs za (1 : Int32))) + (own_isK xs za (2 : Int32))) + (own_isK xs za (3 : Int32))) + (own_isK xs za (4 : Int32)))), .unset]) rfl k) ?_
    show own_Gl _ _ _ _ _ _ _ (T12.setTop (mkF m 272 #[.val (.int p1), .val (.int p2), .val (.int ((p2 &&& (2147483647 : Int32)) % (6 : Int32))), .val (.int x3), .val (.int x4), .val (.int x5), .val (.int x6), .val (.int x7), .val (.ref sa), .val (.int (own_sc xs 0 0 0)), .val (.int (((((own_isU xs za (0 : Int32)) + (own_isU xs za (1 : Int32))) + (own_isU xs za (2 : Int32))) + (own_isU xs za (3 : Int32))) + (own_isU xs za (4 : Int32)))), .val (.int (((((own_isK xs za (0 : Int32)) + (own_isK xs za (1 : Int32))) + (own_isK xs za (2 : Int32))) + (own_isK xs za (3 : Int32))) + (own_isK xs za (4 : Int32)))), .unset] []))
    refine own_st (fun _ k => XS.iload X12.here hx rfl (hb hby at_272) rfl k) ?_
    show own_Gl _ _ _ _ _ _ _ (T12.setTop (mkF m 274 #[.val (.int p1), .val (.int p2), .val (.int ((p2 &&& (2147483647 : Int32)) % (6 : Int32))), .val (.int x3), .val (.int x4), .val (.int x5), .val (.int x6), .val (.int x7), .val (.ref sa), .val (.int (own_sc xs 0 0 0)), .val (.int (((((own_isU xs za (0 : Int32)) + (own_isU xs za (1 : Int32))) + (own_isU xs za (2 : Int32))) + (own_isU xs za (3 : Int32))) + (own_isU xs za (4 : Int32)))), .val (.int (((((own_isK xs za (0 : Int32)) + (own_isK xs za (1 : Int32))) + (own_isK xs za (2 : Int32))) + (own_isK xs za (3 : Int32))) + (own_isK xs za (4 : Int32)))), .unset] [(.int (((((own_isK xs za (0 : Int32)) + (own_isK xs za (1 : Int32))) + (own_isK xs za (2 : Int32))) + (own_isK xs za (3 : Int32))) + (own_isK xs za (4 : Int32))))]))
    by_cases hc274 : (((((own_isK xs za (0 : Int32)) + (own_isK xs za (1 : Int32))) + (own_isK xs za (2 : Int32))) + (own_isK xs za (3 : Int32))) + (own_isK xs za (4 : Int32))) = (0 : Int32)
    · refine own_st (fun _ k => XS.ifNo X12.here hx rfl (hb hby at_274) rfl ((if0 _ _).trans (teq hc274).2) k) ?_
      show own_Gl _ _ _ _ _ _ _ (T12.setTop (mkF m 277 #[.val (.int p1), .val (.int p2), .val (.int ((p2 &&& (2147483647 : Int32)) % (6 : Int32))), .val (.int x3), .val (.int x4), .val (.int x5), .val (.int x6), .val (.int x7), .val (.ref sa), .val (.int (own_sc xs 0 0 0)), .val (.int (((((own_isU xs za (0 : Int32)) + (own_isU xs za (1 : Int32))) + (own_isU xs za (2 : Int32))) + (own_isU xs za (3 : Int32))) + (own_isU xs za (4 : Int32)))), .val (.int (((((own_isK xs za (0 : Int32)) + (own_isK xs za (1 : Int32))) + (own_isK xs za (2 : Int32))) + (own_isK xs za (3 : Int32))) + (own_isK xs za (4 : Int32)))), .unset] []))
      refine own_st (fun _ k => XS.iload X12.here hx rfl (hb hby at_277) rfl k) ?_
      show own_Gl _ _ _ _ _ _ _ (T12.setTop (mkF m 279 #[.val (.int p1), .val (.int p2), .val (.int ((p2 &&& (2147483647 : Int32)) % (6 : Int32))), .val (.int x3), .val (.int x4), .val (.int x5), .val (.int x6), .val (.int x7), .val (.ref sa), .val (.int (own_sc xs 0 0 0)), .val (.int (((((own_isU xs za (0 : Int32)) + (own_isU xs za (1 : Int32))) + (own_isU xs za (2 : Int32))) + (own_isU xs za (3 : Int32))) + (own_isU xs za (4 : Int32)))), .val (.int (((((own_isK xs za (0 : Int32)) + (own_isK xs za (1 : Int32))) + (own_isK xs za (2 : Int32))) + (own_isK xs za (3 : Int32))) + (own_isK xs za (4 : Int32)))), .unset] [(.int (((((own_isU xs za (0 : Int32)) + (own_isU xs za (1 : Int32))) + (own_isU xs za (2 : Int32))) + (own_isU xs za (3 : Int32))) + (own_isU xs za (4 : Int32))))]))
      refine own_st (fun _ k => XS.iconst X12.here hx rfl (hb hby at_279) k) ?_
      show own_Gl _ _ _ _ _ _ _ (T12.setTop (mkF m 280 #[.val (.int p1), .val (.int p2), .val (.int ((p2 &&& (2147483647 : Int32)) % (6 : Int32))), .val (.int x3), .val (.int x4), .val (.int x5), .val (.int x6), .val (.int x7), .val (.ref sa), .val (.int (own_sc xs 0 0 0)), .val (.int (((((own_isU xs za (0 : Int32)) + (own_isU xs za (1 : Int32))) + (own_isU xs za (2 : Int32))) + (own_isU xs za (3 : Int32))) + (own_isU xs za (4 : Int32)))), .val (.int (((((own_isK xs za (0 : Int32)) + (own_isK xs za (1 : Int32))) + (own_isK xs za (2 : Int32))) + (own_isK xs za (3 : Int32))) + (own_isK xs za (4 : Int32)))), .unset] [(.int (1 : Int32)), (.int (((((own_isU xs za (0 : Int32)) + (own_isU xs za (1 : Int32))) + (own_isU xs za (2 : Int32))) + (own_isU xs za (3 : Int32))) + (own_isU xs za (4 : Int32))))]))
      by_cases hc280 : (1 : Int32) < (((((own_isU xs za (0 : Int32)) + (own_isU xs za (1 : Int32))) + (own_isU xs za (2 : Int32))) + (own_isU xs za (3 : Int32))) + (own_isU xs za (4 : Int32)))
      · refine own_st (fun _ k => XS.icmpNo X12.here hx rfl (hb hby at_280) rfl (tlt hc280).2.2.2 k) ?_
        show own_Gl _ _ _ _ _ _ _ (T12.setTop (mkF m 283 #[.val (.int p1), .val (.int p2), .val (.int ((p2 &&& (2147483647 : Int32)) % (6 : Int32))), .val (.int x3), .val (.int x4), .val (.int x5), .val (.int x6), .val (.int x7), .val (.ref sa), .val (.int (own_sc xs 0 0 0)), .val (.int (((((own_isU xs za (0 : Int32)) + (own_isU xs za (1 : Int32))) + (own_isU xs za (2 : Int32))) + (own_isU xs za (3 : Int32))) + (own_isU xs za (4 : Int32)))), .val (.int (((((own_isK xs za (0 : Int32)) + (own_isK xs za (1 : Int32))) + (own_isK xs za (2 : Int32))) + (own_isK xs za (3 : Int32))) + (own_isK xs za (4 : Int32)))), .unset] []))
        refine own_st (fun _ k => XS.iconst X12.here hx rfl (hb hby at_283) k) ?_
        show own_Gl _ _ _ _ _ _ _ (T12.setTop (mkF m 284 #[.val (.int p1), .val (.int p2), .val (.int ((p2 &&& (2147483647 : Int32)) % (6 : Int32))), .val (.int x3), .val (.int x4), .val (.int x5), .val (.int x6), .val (.int x7), .val (.ref sa), .val (.int (own_sc xs 0 0 0)), .val (.int (((((own_isU xs za (0 : Int32)) + (own_isU xs za (1 : Int32))) + (own_isU xs za (2 : Int32))) + (own_isU xs za (3 : Int32))) + (own_isU xs za (4 : Int32)))), .val (.int (((((own_isK xs za (0 : Int32)) + (own_isK xs za (1 : Int32))) + (own_isK xs za (2 : Int32))) + (own_isK xs za (3 : Int32))) + (own_isK xs za (4 : Int32)))), .unset] [(.int (-1 : Int32))]))
        refine own_st (fun _ k => XS.goto X12.here hx rfl (pc0 := 284) (pc' := 288) rfl (hb hby at_284) (by decide) (by decide) k) ?_
        show own_Gl _ _ _ _ _ _ _ (T12.setTop (mkF m 288 #[.val (.int p1), .val (.int p2), .val (.int ((p2 &&& (2147483647 : Int32)) % (6 : Int32))), .val (.int x3), .val (.int x4), .val (.int x5), .val (.int x6), .val (.int x7), .val (.ref sa), .val (.int (own_sc xs 0 0 0)), .val (.int (((((own_isU xs za (0 : Int32)) + (own_isU xs za (1 : Int32))) + (own_isU xs za (2 : Int32))) + (own_isU xs za (3 : Int32))) + (own_isU xs za (4 : Int32)))), .val (.int (((((own_isK xs za (0 : Int32)) + (own_isK xs za (1 : Int32))) + (own_isK xs za (2 : Int32))) + (own_isK xs za (3 : Int32))) + (own_isK xs za (4 : Int32)))), .unset] [(.int (-1 : Int32))]))
        refine own_st (fun _ k => XS.istore X12.here hx rfl (hb hby at_288) rfl (l' := #[.val (.int p1), .val (.int p2), .val (.int ((p2 &&& (2147483647 : Int32)) % (6 : Int32))), .val (.int x3), .val (.int x4), .val (.int x5), .val (.int x6), .val (.int x7), .val (.ref sa), .val (.int (own_sc xs 0 0 0)), .val (.int (((((own_isU xs za (0 : Int32)) + (own_isU xs za (1 : Int32))) + (own_isU xs za (2 : Int32))) + (own_isU xs za (3 : Int32))) + (own_isU xs za (4 : Int32)))), .val (.int (((((own_isK xs za (0 : Int32)) + (own_isK xs za (1 : Int32))) + (own_isK xs za (2 : Int32))) + (own_isK xs za (3 : Int32))) + (own_isK xs za (4 : Int32)))), .val (.int (-1 : Int32))]) rfl k) ?_
        show own_Gl _ _ _ _ _ _ _ (T12.setTop (mkF m 290 #[.val (.int p1), .val (.int p2), .val (.int ((p2 &&& (2147483647 : Int32)) % (6 : Int32))), .val (.int x3), .val (.int x4), .val (.int x5), .val (.int x6), .val (.int x7), .val (.ref sa), .val (.int (own_sc xs 0 0 0)), .val (.int (((((own_isU xs za (0 : Int32)) + (own_isU xs za (1 : Int32))) + (own_isU xs za (2 : Int32))) + (own_isU xs za (3 : Int32))) + (own_isU xs za (4 : Int32)))), .val (.int (((((own_isK xs za (0 : Int32)) + (own_isK xs za (1 : Int32))) + (own_isK xs za (2 : Int32))) + (own_isK xs za (3 : Int32))) + (own_isK xs za (4 : Int32)))), .val (.int (-1 : Int32))] []))
        refine own_st (fun _ k => XS.goto X12.here hx rfl (pc0 := 290) (pc' := 380) rfl (hb hby at_290) (by decide) (by decide) k) ?_
        show own_Gl _ _ _ _ _ _ _ (T12.setTop (mkF m 380 #[.val (.int p1), .val (.int p2), .val (.int ((p2 &&& (2147483647 : Int32)) % (6 : Int32))), .val (.int x3), .val (.int x4), .val (.int x5), .val (.int x6), .val (.int x7), .val (.ref sa), .val (.int (own_sc xs 0 0 0)), .val (.int (((((own_isU xs za (0 : Int32)) + (own_isU xs za (1 : Int32))) + (own_isU xs za (2 : Int32))) + (own_isU xs za (3 : Int32))) + (own_isU xs za (4 : Int32)))), .val (.int (((((own_isK xs za (0 : Int32)) + (own_isK xs za (1 : Int32))) + (own_isK xs za (2 : Int32))) + (own_isK xs za (3 : Int32))) + (own_isK xs za (4 : Int32)))), .val (.int (-1 : Int32))] []))
        refine own_st (fun _ k => XS.iload X12.here hx rfl (hb hby at_380) rfl k) ?_
        show own_Gl _ _ _ _ _ _ _ (T12.setTop (mkF m 382 #[.val (.int p1), .val (.int p2), .val (.int ((p2 &&& (2147483647 : Int32)) % (6 : Int32))), .val (.int x3), .val (.int x4), .val (.int x5), .val (.int x6), .val (.int x7), .val (.ref sa), .val (.int (own_sc xs 0 0 0)), .val (.int (((((own_isU xs za (0 : Int32)) + (own_isU xs za (1 : Int32))) + (own_isU xs za (2 : Int32))) + (own_isU xs za (3 : Int32))) + (own_isU xs za (4 : Int32)))), .val (.int (((((own_isK xs za (0 : Int32)) + (own_isK xs za (1 : Int32))) + (own_isK xs za (2 : Int32))) + (own_isK xs za (3 : Int32))) + (own_isK xs za (4 : Int32)))), .val (.int (-1 : Int32))] [(.int (own_sc xs 0 0 0))]))
        refine own_st (fun _ k => XS.iload X12.here hx rfl (hb hby at_382) rfl k) ?_
        show own_Gl _ _ _ _ _ _ _ (T12.setTop (mkF m 384 #[.val (.int p1), .val (.int p2), .val (.int ((p2 &&& (2147483647 : Int32)) % (6 : Int32))), .val (.int x3), .val (.int x4), .val (.int x5), .val (.int x6), .val (.int x7), .val (.ref sa), .val (.int (own_sc xs 0 0 0)), .val (.int (((((own_isU xs za (0 : Int32)) + (own_isU xs za (1 : Int32))) + (own_isU xs za (2 : Int32))) + (own_isU xs za (3 : Int32))) + (own_isU xs za (4 : Int32)))), .val (.int (((((own_isK xs za (0 : Int32)) + (own_isK xs za (1 : Int32))) + (own_isK xs za (2 : Int32))) + (own_isK xs za (3 : Int32))) + (own_isK xs za (4 : Int32)))), .val (.int (-1 : Int32))] [(.int (-1 : Int32)), (.int (own_sc xs 0 0 0))]))
        have hd13 : (own_sc xs 0 0 0) = (-1 : Int32) := (by rw [hgood, own_expect, if_pos hc274, if_pos hc280] <;> rfl)
        refine own_st (fun _ k => XS.icmpNo X12.here hx rfl (hb hby at_384) rfl (teq hd13).2 k) ?_
        show own_Gl _ _ _ _ _ _ _ (T12.setTop (mkF m 387 #[.val (.int p1), .val (.int p2), .val (.int ((p2 &&& (2147483647 : Int32)) % (6 : Int32))), .val (.int x3), .val (.int x4), .val (.int x5), .val (.int x6), .val (.int x7), .val (.ref sa), .val (.int (own_sc xs 0 0 0)), .val (.int (((((own_isU xs za (0 : Int32)) + (own_isU xs za (1 : Int32))) + (own_isU xs za (2 : Int32))) + (own_isU xs za (3 : Int32))) + (own_isU xs za (4 : Int32)))), .val (.int (((((own_isK xs za (0 : Int32)) + (own_isK xs za (1 : Int32))) + (own_isK xs za (2 : Int32))) + (own_isK xs za (3 : Int32))) + (own_isK xs za (4 : Int32)))), .val (.int (-1 : Int32))] []))
        refine own_st (fun _ k => XS.iconst X12.here hx rfl (hb hby at_387) k) ?_
        show own_Gl _ _ _ _ _ _ _ (T12.setTop (mkF m 388 #[.val (.int p1), .val (.int p2), .val (.int ((p2 &&& (2147483647 : Int32)) % (6 : Int32))), .val (.int x3), .val (.int x4), .val (.int x5), .val (.int x6), .val (.int x7), .val (.ref sa), .val (.int (own_sc xs 0 0 0)), .val (.int (((((own_isU xs za (0 : Int32)) + (own_isU xs za (1 : Int32))) + (own_isU xs za (2 : Int32))) + (own_isU xs za (3 : Int32))) + (own_isU xs za (4 : Int32)))), .val (.int (((((own_isK xs za (0 : Int32)) + (own_isK xs za (1 : Int32))) + (own_isK xs za (2 : Int32))) + (own_isK xs za (3 : Int32))) + (own_isK xs za (4 : Int32)))), .val (.int (-1 : Int32))] [(.int (1 : Int32))]))
        refine own_st (fun _ k => XS.goto X12.here hx rfl (pc0 := 388) (pc' := 392) rfl (hb hby at_388) (by decide) (by decide) k) ?_
        show own_Gl _ _ _ _ _ _ _ (T12.setTop (mkF m 392 #[.val (.int p1), .val (.int p2), .val (.int ((p2 &&& (2147483647 : Int32)) % (6 : Int32))), .val (.int x3), .val (.int x4), .val (.int x5), .val (.int x6), .val (.int x7), .val (.ref sa), .val (.int (own_sc xs 0 0 0)), .val (.int (((((own_isU xs za (0 : Int32)) + (own_isU xs za (1 : Int32))) + (own_isU xs za (2 : Int32))) + (own_isU xs za (3 : Int32))) + (own_isU xs za (4 : Int32)))), .val (.int (((((own_isK xs za (0 : Int32)) + (own_isK xs za (1 : Int32))) + (own_isK xs za (2 : Int32))) + (own_isK xs za (3 : Int32))) + (own_isK xs za (4 : Int32)))), .val (.int (-1 : Int32))] [(.int (1 : Int32))]))
        exact own_retN X12 hx hlk (t := .boolean) hret (by simp) (hb hby at_392) e12 ⟨rfl, N12⟩ (by decide) (by decide)
      · refine own_st (fun _ k => XS.icmpYes X12.here hx rfl (pc0 := 280) (pc' := 287) rfl (hb hby at_280) rfl (flt hc280).2.2.2 (by decide) (by decide) k) ?_
        show own_Gl _ _ _ _ _ _ _ (T12.setTop (mkF m 287 #[.val (.int p1), .val (.int p2), .val (.int ((p2 &&& (2147483647 : Int32)) % (6 : Int32))), .val (.int x3), .val (.int x4), .val (.int x5), .val (.int x6), .val (.int x7), .val (.ref sa), .val (.int (own_sc xs 0 0 0)), .val (.int (((((own_isU xs za (0 : Int32)) + (own_isU xs za (1 : Int32))) + (own_isU xs za (2 : Int32))) + (own_isU xs za (3 : Int32))) + (own_isU xs za (4 : Int32)))), .val (.int (((((own_isK xs za (0 : Int32)) + (own_isK xs za (1 : Int32))) + (own_isK xs za (2 : Int32))) + (own_isK xs za (3 : Int32))) + (own_isK xs za (4 : Int32)))), .unset] []))
        refine own_st (fun _ k => XS.iconst X12.here hx rfl (hb hby at_287) k) ?_
        show own_Gl _ _ _ _ _ _ _ (T12.setTop (mkF m 288 #[.val (.int p1), .val (.int p2), .val (.int ((p2 &&& (2147483647 : Int32)) % (6 : Int32))), .val (.int x3), .val (.int x4), .val (.int x5), .val (.int x6), .val (.int x7), .val (.ref sa), .val (.int (own_sc xs 0 0 0)), .val (.int (((((own_isU xs za (0 : Int32)) + (own_isU xs za (1 : Int32))) + (own_isU xs za (2 : Int32))) + (own_isU xs za (3 : Int32))) + (own_isU xs za (4 : Int32)))), .val (.int (((((own_isK xs za (0 : Int32)) + (own_isK xs za (1 : Int32))) + (own_isK xs za (2 : Int32))) + (own_isK xs za (3 : Int32))) + (own_isK xs za (4 : Int32)))), .unset] [(.int (0 : Int32))]))
        refine own_st (fun _ k => XS.istore X12.here hx rfl (hb hby at_288) rfl (l' := #[.val (.int p1), .val (.int p2), .val (.int ((p2 &&& (2147483647 : Int32)) % (6 : Int32))), .val (.int x3), .val (.int x4), .val (.int x5), .val (.int x6), .val (.int x7), .val (.ref sa), .val (.int (own_sc xs 0 0 0)), .val (.int (((((own_isU xs za (0 : Int32)) + (own_isU xs za (1 : Int32))) + (own_isU xs za (2 : Int32))) + (own_isU xs za (3 : Int32))) + (own_isU xs za (4 : Int32)))), .val (.int (((((own_isK xs za (0 : Int32)) + (own_isK xs za (1 : Int32))) + (own_isK xs za (2 : Int32))) + (own_isK xs za (3 : Int32))) + (own_isK xs za (4 : Int32)))), .val (.int (0 : Int32))]) rfl k) ?_
        show own_Gl _ _ _ _ _ _ _ (T12.setTop (mkF m 290 #[.val (.int p1), .val (.int p2), .val (.int ((p2 &&& (2147483647 : Int32)) % (6 : Int32))), .val (.int x3), .val (.int x4), .val (.int x5), .val (.int x6), .val (.int x7), .val (.ref sa), .val (.int (own_sc xs 0 0 0)), .val (.int (((((own_isU xs za (0 : Int32)) + (own_isU xs za (1 : Int32))) + (own_isU xs za (2 : Int32))) + (own_isU xs za (3 : Int32))) + (own_isU xs za (4 : Int32)))), .val (.int (((((own_isK xs za (0 : Int32)) + (own_isK xs za (1 : Int32))) + (own_isK xs za (2 : Int32))) + (own_isK xs za (3 : Int32))) + (own_isK xs za (4 : Int32)))), .val (.int (0 : Int32))] []))
        refine own_st (fun _ k => XS.goto X12.here hx rfl (pc0 := 290) (pc' := 380) rfl (hb hby at_290) (by decide) (by decide) k) ?_
        show own_Gl _ _ _ _ _ _ _ (T12.setTop (mkF m 380 #[.val (.int p1), .val (.int p2), .val (.int ((p2 &&& (2147483647 : Int32)) % (6 : Int32))), .val (.int x3), .val (.int x4), .val (.int x5), .val (.int x6), .val (.int x7), .val (.ref sa), .val (.int (own_sc xs 0 0 0)), .val (.int (((((own_isU xs za (0 : Int32)) + (own_isU xs za (1 : Int32))) + (own_isU xs za (2 : Int32))) + (own_isU xs za (3 : Int32))) + (own_isU xs za (4 : Int32)))), .val (.int (((((own_isK xs za (0 : Int32)) + (own_isK xs za (1 : Int32))) + (own_isK xs za (2 : Int32))) + (own_isK xs za (3 : Int32))) + (own_isK xs za (4 : Int32)))), .val (.int (0 : Int32))] []))
        refine own_st (fun _ k => XS.iload X12.here hx rfl (hb hby at_380) rfl k) ?_
        show own_Gl _ _ _ _ _ _ _ (T12.setTop (mkF m 382 #[.val (.int p1), .val (.int p2), .val (.int ((p2 &&& (2147483647 : Int32)) % (6 : Int32))), .val (.int x3), .val (.int x4), .val (.int x5), .val (.int x6), .val (.int x7), .val (.ref sa), .val (.int (own_sc xs 0 0 0)), .val (.int (((((own_isU xs za (0 : Int32)) + (own_isU xs za (1 : Int32))) + (own_isU xs za (2 : Int32))) + (own_isU xs za (3 : Int32))) + (own_isU xs za (4 : Int32)))), .val (.int (((((own_isK xs za (0 : Int32)) + (own_isK xs za (1 : Int32))) + (own_isK xs za (2 : Int32))) + (own_isK xs za (3 : Int32))) + (own_isK xs za (4 : Int32)))), .val (.int (0 : Int32))] [(.int (own_sc xs 0 0 0))]))
        refine own_st (fun _ k => XS.iload X12.here hx rfl (hb hby at_382) rfl k) ?_
        show own_Gl _ _ _ _ _ _ _ (T12.setTop (mkF m 384 #[.val (.int p1), .val (.int p2), .val (.int ((p2 &&& (2147483647 : Int32)) % (6 : Int32))), .val (.int x3), .val (.int x4), .val (.int x5), .val (.int x6), .val (.int x7), .val (.ref sa), .val (.int (own_sc xs 0 0 0)), .val (.int (((((own_isU xs za (0 : Int32)) + (own_isU xs za (1 : Int32))) + (own_isU xs za (2 : Int32))) + (own_isU xs za (3 : Int32))) + (own_isU xs za (4 : Int32)))), .val (.int (((((own_isK xs za (0 : Int32)) + (own_isK xs za (1 : Int32))) + (own_isK xs za (2 : Int32))) + (own_isK xs za (3 : Int32))) + (own_isK xs za (4 : Int32)))), .val (.int (0 : Int32))] [(.int (0 : Int32)), (.int (own_sc xs 0 0 0))]))
        have hd14 : (own_sc xs 0 0 0) = (0 : Int32) := (by rw [hgood, own_expect, if_pos hc274, if_neg hc280] <;> rfl)
        refine own_st (fun _ k => XS.icmpNo X12.here hx rfl (hb hby at_384) rfl (teq hd14).2 k) ?_
        show own_Gl _ _ _ _ _ _ _ (T12.setTop (mkF m 387 #[.val (.int p1), .val (.int p2), .val (.int ((p2 &&& (2147483647 : Int32)) % (6 : Int32))), .val (.int x3), .val (.int x4), .val (.int x5), .val (.int x6), .val (.int x7), .val (.ref sa), .val (.int (own_sc xs 0 0 0)), .val (.int (((((own_isU xs za (0 : Int32)) + (own_isU xs za (1 : Int32))) + (own_isU xs za (2 : Int32))) + (own_isU xs za (3 : Int32))) + (own_isU xs za (4 : Int32)))), .val (.int (((((own_isK xs za (0 : Int32)) + (own_isK xs za (1 : Int32))) + (own_isK xs za (2 : Int32))) + (own_isK xs za (3 : Int32))) + (own_isK xs za (4 : Int32)))), .val (.int (0 : Int32))] []))
        refine own_st (fun _ k => XS.iconst X12.here hx rfl (hb hby at_387) k) ?_
        show own_Gl _ _ _ _ _ _ _ (T12.setTop (mkF m 388 #[.val (.int p1), .val (.int p2), .val (.int ((p2 &&& (2147483647 : Int32)) % (6 : Int32))), .val (.int x3), .val (.int x4), .val (.int x5), .val (.int x6), .val (.int x7), .val (.ref sa), .val (.int (own_sc xs 0 0 0)), .val (.int (((((own_isU xs za (0 : Int32)) + (own_isU xs za (1 : Int32))) + (own_isU xs za (2 : Int32))) + (own_isU xs za (3 : Int32))) + (own_isU xs za (4 : Int32)))), .val (.int (((((own_isK xs za (0 : Int32)) + (own_isK xs za (1 : Int32))) + (own_isK xs za (2 : Int32))) + (own_isK xs za (3 : Int32))) + (own_isK xs za (4 : Int32)))), .val (.int (0 : Int32))] [(.int (1 : Int32))]))
        refine own_st (fun _ k => XS.goto X12.here hx rfl (pc0 := 388) (pc' := 392) rfl (hb hby at_388) (by decide) (by decide) k) ?_
        show own_Gl _ _ _ _ _ _ _ (T12.setTop (mkF m 392 #[.val (.int p1), .val (.int p2), .val (.int ((p2 &&& (2147483647 : Int32)) % (6 : Int32))), .val (.int x3), .val (.int x4), .val (.int x5), .val (.int x6), .val (.int x7), .val (.ref sa), .val (.int (own_sc xs 0 0 0)), .val (.int (((((own_isU xs za (0 : Int32)) + (own_isU xs za (1 : Int32))) + (own_isU xs za (2 : Int32))) + (own_isU xs za (3 : Int32))) + (own_isU xs za (4 : Int32)))), .val (.int (((((own_isK xs za (0 : Int32)) + (own_isK xs za (1 : Int32))) + (own_isK xs za (2 : Int32))) + (own_isK xs za (3 : Int32))) + (own_isK xs za (4 : Int32)))), .val (.int (0 : Int32))] [(.int (1 : Int32))]))
        exact own_retN X12 hx hlk (t := .boolean) hret (by simp) (hb hby at_392) e12 ⟨rfl, N12⟩ (by decide) (by decide)
    · refine own_st (fun _ k => XS.ifYes X12.here hx rfl (pc0 := 274) (pc' := 293) rfl (hb hby at_274) rfl ((if0 _ _).trans (feq hc274).2) (by decide) (by decide) k) ?_
      show own_Gl _ _ _ _ _ _ _ (T12.setTop (mkF m 293 #[.val (.int p1), .val (.int p2), .val (.int ((p2 &&& (2147483647 : Int32)) % (6 : Int32))), .val (.int x3), .val (.int x4), .val (.int x5), .val (.int x6), .val (.int x7), .val (.ref sa), .val (.int (own_sc xs 0 0 0)), .val (.int (((((own_isU xs za (0 : Int32)) + (own_isU xs za (1 : Int32))) + (own_isU xs za (2 : Int32))) + (own_isU xs za (3 : Int32))) + (own_isU xs za (4 : Int32)))), .val (.int (((((own_isK xs za (0 : Int32)) + (own_isK xs za (1 : Int32))) + (own_isK xs za (2 : Int32))) + (own_isK xs za (3 : Int32))) + (own_isK xs za (4 : Int32)))), .unset] []))
      refine own_st (fun _ k => XS.aload X12.here hx rfl (hb hby at_293) rfl rfl k) ?_
      show own_Gl _ _ _ _ _ _ _ (T12.setTop (mkF m 295 #[.val (.int p1), .val (.int p2), .val (.int ((p2 &&& (2147483647 : Int32)) % (6 : Int32))), .val (.int x3), .val (.int x4), .val (.int x5), .val (.int x6), .val (.int x7), .val (.ref sa), .val (.int (own_sc xs 0 0 0)), .val (.int (((((own_isU xs za (0 : Int32)) + (own_isU xs za (1 : Int32))) + (own_isU xs za (2 : Int32))) + (own_isU xs za (3 : Int32))) + (own_isU xs za (4 : Int32)))), .val (.int (((((own_isK xs za (0 : Int32)) + (own_isK xs za (1 : Int32))) + (own_isK xs za (2 : Int32))) + (own_isK xs za (3 : Int32))) + (own_isK xs za (4 : Int32)))), .unset] [(.ref sa)]))
      refine own_st (fun _ k => XS.iconst X12.here hx rfl (hb hby at_295) k) ?_
      show own_Gl _ _ _ _ _ _ _ (T12.setTop (mkF m 296 #[.val (.int p1), .val (.int p2), .val (.int ((p2 &&& (2147483647 : Int32)) % (6 : Int32))), .val (.int x3), .val (.int x4), .val (.int x5), .val (.int x6), .val (.int x7), .val (.ref sa), .val (.int (own_sc xs 0 0 0)), .val (.int (((((own_isU xs za (0 : Int32)) + (own_isU xs za (1 : Int32))) + (own_isU xs za (2 : Int32))) + (own_isU xs za (3 : Int32))) + (own_isU xs za (4 : Int32)))), .val (.int (((((own_isK xs za (0 : Int32)) + (own_isK xs za (1 : Int32))) + (own_isK xs za (2 : Int32))) + (own_isK xs za (3 : Int32))) + (own_isK xs za (4 : Int32)))), .unset] [(.int (0 : Int32)), (.ref sa)]))
      obtain ⟨_, _, ⟨T15, L15, k15, n15⟩, -, X15, ⟨Lc15, hQ15, l15, y15, z15⟩, st15⟩ := Jvm.LawKit.callS X12 hx (y := (⟨"org/benli/core/BernsteinSignChangesPinLaw", "pinned", "([II)Z"⟩ : MethodName)) hown (mvT hZ (hw _ (List.mem_of_getElem? (i := 19) rfl))) (mvT hZ (hw _ (List.mem_of_getElem? (i := 20) rfl))) (mvT hZ (hw _ (List.mem_of_getElem? (i := 8) rfl))) (mvT hZ (hw _ (List.mem_of_getElem? (i := 21) rfl))) (by decide) (backOf (W := 0) (own_r_pinned l Z a0 hw [] sa ka za xs (0 : Int32) h1 n0 Zs1 fj1_0) hZ (hw _ (List.mem_of_getElem? (i := 21) rfl)) (hw _ (List.mem_of_getElem? (i := 8) rfl)) (by decide) (by decide)) (g := (mkF m 296 #[.val (.int p1), .val (.int p2), .val (.int ((p2 &&& (2147483647 : Int32)) % (6 : Int32))), .val (.int x3), .val (.int x4), .val (.int x5), .val (.int x6), .val (.int x7), .val (.ref sa), .val (.int (own_sc xs 0 0 0)), .val (.int (((((own_isU xs za (0 : Int32)) + (own_isU xs za (1 : Int32))) + (own_isU xs za (2 : Int32))) + (own_isU xs za (3 : Int32))) + (own_isU xs za (4 : Int32)))), .val (.int (((((own_isK xs za (0 : Int32)) + (own_isK xs za (1 : Int32))) + (own_isK xs za (2 : Int32))) + (own_isK xs za (3 : Int32))) + (own_isK xs za (4 : Int32)))), .unset] [(.int (0 : Int32)), (.ref sa)])) rfl (by rw [hml]; rfl) (argsL := [(.ref sa), (.int (0 : Int32))]) (rest := []) (lenOf own_pd144447708 rfl) rfl (by show 2 * 0 + _ ≤ _; exact Nat.le_of_eq rfl) (hb hby at_296) (fun _ _ => ⟨rfl, e12, (by decide : 1 + 0 ≤ room_1.cells), (by decide : 5 + 0 ≤ room_1.slots)⟩)
      dsimp only [Pt.U, Pt.locs, Pt.cells, Pt.slots] at X15 l15 y15 z15 st15 hQ15
      subst l15 y15 z15
      obtain ⟨hh15, eh015⟩ : ∃ z, T15.heap = z := ⟨_, rfl⟩
      rw [eh015] at hQ15
      obtain ⟨rfl, Nq15, eh15⟩ := hQ15
      have N15 := Fr.app N12 Nq15
      refine own_st st15 ?_
      have e15 : T15.heap = h1 := eh015.trans eh15
      show own_Gl _ _ _ _ _ _ _ (T15.setTop (mkF m 299 #[.val (.int p1), .val (.int p2), .val (.int ((p2 &&& (2147483647 : Int32)) % (6 : Int32))), .val (.int x3), .val (.int x4), .val (.int x5), .val (.int x6), .val (.int x7), .val (.ref sa), .val (.int (own_sc xs 0 0 0)), .val (.int (((((own_isU xs za (0 : Int32)) + (own_isU xs za (1 : Int32))) + (own_isU xs za (2 : Int32))) + (own_isU xs za (3 : Int32))) + (own_isU xs za (4 : Int32)))), .val (.int (((((own_isK xs za (0 : Int32)) + (own_isK xs za (1 : Int32))) + (own_isK xs za (2 : Int32))) + (own_isK xs za (3 : Int32))) + (own_isK xs za (4 : Int32)))), .unset] [(.int (own_pinned xs za (0 : Int32)))]))
      by_cases hc299 : (own_pinned xs za (0 : Int32)) = (0 : Int32)
      · refine own_st (fun _ k => XS.ifYes X15.here hx rfl (pc0 := 299) (pc' := 338) rfl (hb hby at_299) rfl ((if0 _ _).trans (teq hc299).1) (by decide) (by decide) k) ?_
        show own_Gl _ _ _ _ _ _ _ (T15.setTop (mkF m 338 #[.val (.int p1), .val (.int p2), .val (.int ((p2 &&& (2147483647 : Int32)) % (6 : Int32))), .val (.int x3), .val (.int x4), .val (.int x5), .val (.int x6), .val (.int x7), .val (.ref sa), .val (.int (own_sc xs 0 0 0)), .val (.int (((((own_isU xs za (0 : Int32)) + (own_isU xs za (1 : Int32))) + (own_isU xs za (2 : Int32))) + (own_isU xs za (3 : Int32))) + (own_isU xs za (4 : Int32)))), .val (.int (((((own_isK xs za (0 : Int32)) + (own_isK xs za (1 : Int32))) + (own_isK xs za (2 : Int32))) + (own_isK xs za (3 : Int32))) + (own_isK xs za (4 : Int32)))), .unset] []))
        refine own_st (fun _ k => XS.iconst X15.here hx rfl (hb hby at_338) k) ?_
        show own_Gl _ _ _ _ _ _ _ (T15.setTop (mkF m 339 #[.val (.int p1), .val (.int p2), .val (.int ((p2 &&& (2147483647 : Int32)) % (6 : Int32))), .val (.int x3), .val (.int x4), .val (.int x5), .val (.int x6), .val (.int x7), .val (.ref sa), .val (.int (own_sc xs 0 0 0)), .val (.int (((((own_isU xs za (0 : Int32)) + (own_isU xs za (1 : Int32))) + (own_isU xs za (2 : Int32))) + (own_isU xs za (3 : Int32))) + (own_isU xs za (4 : Int32)))), .val (.int (((((own_isK xs za (0 : Int32)) + (own_isK xs za (1 : Int32))) + (own_isK xs za (2 : Int32))) + (own_isK xs za (3 : Int32))) + (own_isK xs za (4 : Int32)))), .unset] [(.int (-1 : Int32))]))
        refine own_st (fun _ k => XS.istore X15.here hx rfl (hb hby at_339) rfl (l' := #[.val (.int p1), .val (.int p2), .val (.int ((p2 &&& (2147483647 : Int32)) % (6 : Int32))), .val (.int x3), .val (.int x4), .val (.int x5), .val (.int x6), .val (.int x7), .val (.ref sa), .val (.int (own_sc xs 0 0 0)), .val (.int (((((own_isU xs za (0 : Int32)) + (own_isU xs za (1 : Int32))) + (own_isU xs za (2 : Int32))) + (own_isU xs za (3 : Int32))) + (own_isU xs za (4 : Int32)))), .val (.int (((((own_isK xs za (0 : Int32)) + (own_isK xs za (1 : Int32))) + (own_isK xs za (2 : Int32))) + (own_isK xs za (3 : Int32))) + (own_isK xs za (4 : Int32)))), .val (.int (-1 : Int32))]) rfl k) ?_
        show own_Gl _ _ _ _ _ _ _ (T15.setTop (mkF m 341 #[.val (.int p1), .val (.int p2), .val (.int ((p2 &&& (2147483647 : Int32)) % (6 : Int32))), .val (.int x3), .val (.int x4), .val (.int x5), .val (.int x6), .val (.int x7), .val (.ref sa), .val (.int (own_sc xs 0 0 0)), .val (.int (((((own_isU xs za (0 : Int32)) + (own_isU xs za (1 : Int32))) + (own_isU xs za (2 : Int32))) + (own_isU xs za (3 : Int32))) + (own_isU xs za (4 : Int32)))), .val (.int (((((own_isK xs za (0 : Int32)) + (own_isK xs za (1 : Int32))) + (own_isK xs za (2 : Int32))) + (own_isK xs za (3 : Int32))) + (own_isK xs za (4 : Int32)))), .val (.int (-1 : Int32))] []))
        refine own_st (fun _ k => XS.goto X15.here hx rfl (pc0 := 341) (pc' := 380) rfl (hb hby at_341) (by decide) (by decide) k) ?_
        show own_Gl _ _ _ _ _ _ _ (T15.setTop (mkF m 380 #[.val (.int p1), .val (.int p2), .val (.int ((p2 &&& (2147483647 : Int32)) % (6 : Int32))), .val (.int x3), .val (.int x4), .val (.int x5), .val (.int x6), .val (.int x7), .val (.ref sa), .val (.int (own_sc xs 0 0 0)), .val (.int (((((own_isU xs za (0 : Int32)) + (own_isU xs za (1 : Int32))) + (own_isU xs za (2 : Int32))) + (own_isU xs za (3 : Int32))) + (own_isU xs za (4 : Int32)))), .val (.int (((((own_isK xs za (0 : Int32)) + (own_isK xs za (1 : Int32))) + (own_isK xs za (2 : Int32))) + (own_isK xs za (3 : Int32))) + (own_isK xs za (4 : Int32)))), .val (.int (-1 : Int32))] []))
        refine own_st (fun _ k => XS.iload X15.here hx rfl (hb hby at_380) rfl k) ?_
        show own_Gl _ _ _ _ _ _ _ (T15.setTop (mkF m 382 #[.val (.int p1), .val (.int p2), .val (.int ((p2 &&& (2147483647 : Int32)) % (6 : Int32))), .val (.int x3), .val (.int x4), .val (.int x5), .val (.int x6), .val (.int x7), .val (.ref sa), .val (.int (own_sc xs 0 0 0)), .val (.int (((((own_isU xs za (0 : Int32)) + (own_isU xs za (1 : Int32))) + (own_isU xs za (2 : Int32))) + (own_isU xs za (3 : Int32))) + (own_isU xs za (4 : Int32)))), .val (.int (((((own_isK xs za (0 : Int32)) + (own_isK xs za (1 : Int32))) + (own_isK xs za (2 : Int32))) + (own_isK xs za (3 : Int32))) + (own_isK xs za (4 : Int32)))), .val (.int (-1 : Int32))] [(.int (own_sc xs 0 0 0))]))
        refine own_st (fun _ k => XS.iload X15.here hx rfl (hb hby at_382) rfl k) ?_
        show own_Gl _ _ _ _ _ _ _ (T15.setTop (mkF m 384 #[.val (.int p1), .val (.int p2), .val (.int ((p2 &&& (2147483647 : Int32)) % (6 : Int32))), .val (.int x3), .val (.int x4), .val (.int x5), .val (.int x6), .val (.int x7), .val (.ref sa), .val (.int (own_sc xs 0 0 0)), .val (.int (((((own_isU xs za (0 : Int32)) + (own_isU xs za (1 : Int32))) + (own_isU xs za (2 : Int32))) + (own_isU xs za (3 : Int32))) + (own_isU xs za (4 : Int32)))), .val (.int (((((own_isK xs za (0 : Int32)) + (own_isK xs za (1 : Int32))) + (own_isK xs za (2 : Int32))) + (own_isK xs za (3 : Int32))) + (own_isK xs za (4 : Int32)))), .val (.int (-1 : Int32))] [(.int (-1 : Int32)), (.int (own_sc xs 0 0 0))]))
        have hd16 : (own_sc xs 0 0 0) = (-1 : Int32) := (by rw [hgood, own_expect, if_neg hc274, if_pos hc299] <;> rfl)
        refine own_st (fun _ k => XS.icmpNo X15.here hx rfl (hb hby at_384) rfl (teq hd16).2 k) ?_
        show own_Gl _ _ _ _ _ _ _ (T15.setTop (mkF m 387 #[.val (.int p1), .val (.int p2), .val (.int ((p2 &&& (2147483647 : Int32)) % (6 : Int32))), .val (.int x3), .val (.int x4), .val (.int x5), .val (.int x6), .val (.int x7), .val (.ref sa), .val (.int (own_sc xs 0 0 0)), .val (.int (((((own_isU xs za (0 : Int32)) + (own_isU xs za (1 : Int32))) + (own_isU xs za (2 : Int32))) + (own_isU xs za (3 : Int32))) + (own_isU xs za (4 : Int32)))), .val (.int (((((own_isK xs za (0 : Int32)) + (own_isK xs za (1 : Int32))) + (own_isK xs za (2 : Int32))) + (own_isK xs za (3 : Int32))) + (own_isK xs za (4 : Int32)))), .val (.int (-1 : Int32))] []))
        refine own_st (fun _ k => XS.iconst X15.here hx rfl (hb hby at_387) k) ?_
        show own_Gl _ _ _ _ _ _ _ (T15.setTop (mkF m 388 #[.val (.int p1), .val (.int p2), .val (.int ((p2 &&& (2147483647 : Int32)) % (6 : Int32))), .val (.int x3), .val (.int x4), .val (.int x5), .val (.int x6), .val (.int x7), .val (.ref sa), .val (.int (own_sc xs 0 0 0)), .val (.int (((((own_isU xs za (0 : Int32)) + (own_isU xs za (1 : Int32))) + (own_isU xs za (2 : Int32))) + (own_isU xs za (3 : Int32))) + (own_isU xs za (4 : Int32)))), .val (.int (((((own_isK xs za (0 : Int32)) + (own_isK xs za (1 : Int32))) + (own_isK xs za (2 : Int32))) + (own_isK xs za (3 : Int32))) + (own_isK xs za (4 : Int32)))), .val (.int (-1 : Int32))] [(.int (1 : Int32))]))
        refine own_st (fun _ k => XS.goto X15.here hx rfl (pc0 := 388) (pc' := 392) rfl (hb hby at_388) (by decide) (by decide) k) ?_
        show own_Gl _ _ _ _ _ _ _ (T15.setTop (mkF m 392 #[.val (.int p1), .val (.int p2), .val (.int ((p2 &&& (2147483647 : Int32)) % (6 : Int32))), .val (.int x3), .val (.int x4), .val (.int x5), .val (.int x6), .val (.int x7), .val (.ref sa), .val (.int (own_sc xs 0 0 0)), .val (.int (((((own_isU xs za (0 : Int32)) + (own_isU xs za (1 : Int32))) + (own_isU xs za (2 : Int32))) + (own_isU xs za (3 : Int32))) + (own_isU xs za (4 : Int32)))), .val (.int (((((own_isK xs za (0 : Int32)) + (own_isK xs za (1 : Int32))) + (own_isK xs za (2 : Int32))) + (own_isK xs za (3 : Int32))) + (own_isK xs za (4 : Int32)))), .val (.int (-1 : Int32))] [(.int (1 : Int32))]))
        exact own_retN X15 hx hlk (t := .boolean) hret (by simp) (hb hby at_392) e15 ⟨rfl, N15⟩ (by decide) (by decide)
      · refine own_st (fun _ k => XS.ifNo X15.here hx rfl (hb hby at_299) rfl ((if0 _ _).trans (feq hc299).1) k) ?_
        show own_Gl _ _ _ _ _ _ _ (T15.setTop (mkF m 302 #[.val (.int p1), .val (.int p2), .val (.int ((p2 &&& (2147483647 : Int32)) % (6 : Int32))), .val (.int x3), .val (.int x4), .val (.int x5), .val (.int x6), .val (.int x7), .val (.ref sa), .val (.int (own_sc xs 0 0 0)), .val (.int (((((own_isU xs za (0 : Int32)) + (own_isU xs za (1 : Int32))) + (own_isU xs za (2 : Int32))) + (own_isU xs za (3 : Int32))) + (own_isU xs za (4 : Int32)))), .val (.int (((((own_isK xs za (0 : Int32)) + (own_isK xs za (1 : Int32))) + (own_isK xs za (2 : Int32))) + (own_isK xs za (3 : Int32))) + (own_isK xs za (4 : Int32)))), .unset] []))
        refine own_st (fun _ k => XS.aload X15.here hx rfl (hb hby at_302) rfl rfl k) ?_
        show own_Gl _ _ _ _ _ _ _ (T15.setTop (mkF m 304 #[.val (.int p1), .val (.int p2), .val (.int ((p2 &&& (2147483647 : Int32)) % (6 : Int32))), .val (.int x3), .val (.int x4), .val (.int x5), .val (.int x6), .val (.int x7), .val (.ref sa), .val (.int (own_sc xs 0 0 0)), .val (.int (((((own_isU xs za (0 : Int32)) + (own_isU xs za (1 : Int32))) + (own_isU xs za (2 : Int32))) + (own_isU xs za (3 : Int32))) + (own_isU xs za (4 : Int32)))), .val (.int (((((own_isK xs za (0 : Int32)) + (own_isK xs za (1 : Int32))) + (own_isK xs za (2 : Int32))) + (own_isK xs za (3 : Int32))) + (own_isK xs za (4 : Int32)))), .unset] [(.ref sa)]))
        refine own_st (fun _ k => XS.iconst X15.here hx rfl (hb hby at_304) k) ?_
        show own_Gl _ _ _ _ _ _ _ (T15.setTop (mkF m 305 #[.val (.int p1), .val (.int p2), .val (.int ((p2 &&& (2147483647 : Int32)) % (6 : Int32))), .val (.int x3), .val (.int x4), .val (.int x5), .val (.int x6), .val (.int x7), .val (.ref sa), .val (.int (own_sc xs 0 0 0)), .val (.int (((((own_isU xs za (0 : Int32)) + (own_isU xs za (1 : Int32))) + (own_isU xs za (2 : Int32))) + (own_isU xs za (3 : Int32))) + (own_isU xs za (4 : Int32)))), .val (.int (((((own_isK xs za (0 : Int32)) + (own_isK xs za (1 : Int32))) + (own_isK xs za (2 : Int32))) + (own_isK xs za (3 : Int32))) + (own_isK xs za (4 : Int32)))), .unset] [(.int (1 : Int32)), (.ref sa)]))
        obtain ⟨_, _, ⟨T17, L17, k17, n17⟩, -, X17, ⟨Lc17, hQ17, l17, y17, z17⟩, st17⟩ := Jvm.LawKit.callS X15 hx (y := (⟨"org/benli/core/BernsteinSignChangesPinLaw", "pinned", "([II)Z"⟩ : MethodName)) hown (mvT hZ (hw _ (List.mem_of_getElem? (i := 19) rfl))) (mvT hZ (hw _ (List.mem_of_getElem? (i := 20) rfl))) (mvT hZ (hw _ (List.mem_of_getElem? (i := 8) rfl))) (mvT hZ (hw _ (List.mem_of_getElem? (i := 21) rfl))) (by decide) (backOf (W := 0) (own_r_pinned l Z a0 hw [] sa ka za xs (1 : Int32) h1 n0 Zs1 fj1_0) hZ (hw _ (List.mem_of_getElem? (i := 21) rfl)) (hw _ (List.mem_of_getElem? (i := 8) rfl)) (by decide) (by decide)) (g := (mkF m 305 #[.val (.int p1), .val (.int p2), .val (.int ((p2 &&& (2147483647 : Int32)) % (6 : Int32))), .val (.int x3), .val (.int x4), .val (.int x5), .val (.int x6), .val (.int x7), .val (.ref sa), .val (.int (own_sc xs 0 0 0)), .val (.int (((((own_isU xs za (0 : Int32)) + (own_isU xs za (1 : Int32))) + (own_isU xs za (2 : Int32))) + (own_isU xs za (3 : Int32))) + (own_isU xs za (4 : Int32)))), .val (.int (((((own_isK xs za (0 : Int32)) + (own_isK xs za (1 : Int32))) + (own_isK xs za (2 : Int32))) + (own_isK xs za (3 : Int32))) + (own_isK xs za (4 : Int32)))), .unset] [(.int (1 : Int32)), (.ref sa)])) rfl (by rw [hml]; rfl) (argsL := [(.ref sa), (.int (1 : Int32))]) (rest := []) (lenOf own_pd144447708 rfl) rfl (by show 2 * 0 + _ ≤ _; exact Nat.le_of_eq rfl) (hb hby at_305) (fun _ _ => ⟨rfl, e15, (by decide : 1 + 0 ≤ room_1.cells), (by decide : 5 + 0 ≤ room_1.slots)⟩)
        dsimp only [Pt.U, Pt.locs, Pt.cells, Pt.slots] at X17 l17 y17 z17 st17 hQ17
        subst l17 y17 z17
        obtain ⟨hh17, eh017⟩ : ∃ z, T17.heap = z := ⟨_, rfl⟩
        rw [eh017] at hQ17
        obtain ⟨rfl, Nq17, eh17⟩ := hQ17
        have N17 := Fr.app N15 Nq17
        refine own_st st17 ?_
        have e17 : T17.heap = h1 := eh017.trans eh17
        show own_Gl _ _ _ _ _ _ _ (T17.setTop (mkF m 308 #[.val (.int p1), .val (.int p2), .val (.int ((p2 &&& (2147483647 : Int32)) % (6 : Int32))), .val (.int x3), .val (.int x4), .val (.int x5), .val (.int x6), .val (.int x7), .val (.ref sa), .val (.int (own_sc xs 0 0 0)), .val (.int (((((own_isU xs za (0 : Int32)) + (own_isU xs za (1 : Int32))) + (own_isU xs za (2 : Int32))) + (own_isU xs za (3 : Int32))) + (own_isU xs za (4 : Int32)))), .val (.int (((((own_isK xs za (0 : Int32)) + (own_isK xs za (1 : Int32))) + (own_isK xs za (2 : Int32))) + (own_isK xs za (3 : Int32))) + (own_isK xs za (4 : Int32)))), .unset] [(.int (own_pinned xs za (1 : Int32)))]))
        by_cases hc308 : (own_pinned xs za (1 : Int32)) = (0 : Int32)
        · refine own_st (fun _ k => XS.ifYes X17.here hx rfl (pc0 := 308) (pc' := 338) rfl (hb hby at_308) rfl ((if0 _ _).trans (teq hc308).1) (by decide) (by decide) k) ?_
          show own_Gl _ _ _ _ _ _ _ (T17.setTop (mkF m 338 #[.val (.int p1), .val (.int p2), .val (.int ((p2 &&& (2147483647 : Int32)) % (6 : Int32))), .val (.int x3), .val (.int x4), .val (.int x5), .val (.int x6), .val (.int x7), .val (.ref sa), .val (.int (own_sc xs 0 0 0)), .val (.int (((((own_isU xs za (0 : Int32)) + (own_isU xs za (1 : Int32))) + (own_isU xs za (2 : Int32))) + (own_isU xs za (3 : Int32))) + (own_isU xs za (4 : Int32)))), .val (.int (((((own_isK xs za (0 : Int32)) + (own_isK xs za (1 : Int32))) + (own_isK xs za (2 : Int32))) + (own_isK xs za (3 : Int32))) + (own_isK xs za (4 : Int32)))), .unset] []))
          refine own_st (fun _ k => XS.iconst X17.here hx rfl (hb hby at_338) k) ?_
          show own_Gl _ _ _ _ _ _ _ (T17.setTop (mkF m 339 #[.val (.int p1), .val (.int p2), .val (.int ((p2 &&& (2147483647 : Int32)) % (6 : Int32))), .val (.int x3), .val (.int x4), .val (.int x5), .val (.int x6), .val (.int x7), .val (.ref sa), .val (.int (own_sc xs 0 0 0)), .val (.int (((((own_isU xs za (0 : Int32)) + (own_isU xs za (1 : Int32))) + (own_isU xs za (2 : Int32))) + (own_isU xs za (3 : Int32))) + (own_isU xs za (4 : Int32)))), .val (.int (((((own_isK xs za (0 : Int32)) + (own_isK xs za (1 : Int32))) + (own_isK xs za (2 : Int32))) + (own_isK xs za (3 : Int32))) + (own_isK xs za (4 : Int32)))), .unset] [(.int (-1 : Int32))]))
          refine own_st (fun _ k => XS.istore X17.here hx rfl (hb hby at_339) rfl (l' := #[.val (.int p1), .val (.int p2), .val (.int ((p2 &&& (2147483647 : Int32)) % (6 : Int32))), .val (.int x3), .val (.int x4), .val (.int x5), .val (.int x6), .val (.int x7), .val (.ref sa), .val (.int (own_sc xs 0 0 0)), .val (.int (((((own_isU xs za (0 : Int32)) + (own_isU xs za (1 : Int32))) + (own_isU xs za (2 : Int32))) + (own_isU xs za (3 : Int32))) + (own_isU xs za (4 : Int32)))), .val (.int (((((own_isK xs za (0 : Int32)) + (own_isK xs za (1 : Int32))) + (own_isK xs za (2 : Int32))) + (own_isK xs za (3 : Int32))) + (own_isK xs za (4 : Int32)))), .val (.int (-1 : Int32))]) rfl k) ?_
          show own_Gl _ _ _ _ _ _ _ (T17.setTop (mkF m 341 #[.val (.int p1), .val (.int p2), .val (.int ((p2 &&& (2147483647 : Int32)) % (6 : Int32))), .val (.int x3), .val (.int x4), .val (.int x5), .val (.int x6), .val (.int x7), .val (.ref sa), .val (.int (own_sc xs 0 0 0)), .val (.int (((((own_isU xs za (0 : Int32)) + (own_isU xs za (1 : Int32))) + (own_isU xs za (2 : Int32))) + (own_isU xs za (3 : Int32))) + (own_isU xs za (4 : Int32)))), .val (.int (((((own_isK xs za (0 : Int32)) + (own_isK xs za (1 : Int32))) + (own_isK xs za (2 : Int32))) + (own_isK xs za (3 : Int32))) + (own_isK xs za (4 : Int32)))), .val (.int (-1 : Int32))] []))
          refine own_st (fun _ k => XS.goto X17.here hx rfl (pc0 := 341) (pc' := 380) rfl (hb hby at_341) (by decide) (by decide) k) ?_
          show own_Gl _ _ _ _ _ _ _ (T17.setTop (mkF m 380 #[.val (.int p1), .val (.int p2), .val (.int ((p2 &&& (2147483647 : Int32)) % (6 : Int32))), .val (.int x3), .val (.int x4), .val (.int x5), .val (.int x6), .val (.int x7), .val (.ref sa), .val (.int (own_sc xs 0 0 0)), .val (.int (((((own_isU xs za (0 : Int32)) + (own_isU xs za (1 : Int32))) + (own_isU xs za (2 : Int32))) + (own_isU xs za (3 : Int32))) + (own_isU xs za (4 : Int32)))), .val (.int (((((own_isK xs za (0 : Int32)) + (own_isK xs za (1 : Int32))) + (own_isK xs za (2 : Int32))) + (own_isK xs za (3 : Int32))) + (own_isK xs za (4 : Int32)))), .val (.int (-1 : Int32))] []))
          refine own_st (fun _ k => XS.iload X17.here hx rfl (hb hby at_380) rfl k) ?_
          show own_Gl _ _ _ _ _ _ _ (T17.setTop (mkF m 382 #[.val (.int p1), .val (.int p2), .val (.int ((p2 &&& (2147483647 : Int32)) % (6 : Int32))), .val (.int x3), .val (.int x4), .val (.int x5), .val (.int x6), .val (.int x7), .val (.ref sa), .val (.int (own_sc xs 0 0 0)), .val (.int (((((own_isU xs za (0 : Int32)) + (own_isU xs za (1 : Int32))) + (own_isU xs za (2 : Int32))) + (own_isU xs za (3 : Int32))) + (own_isU xs za (4 : Int32)))), .val (.int (((((own_isK xs za (0 : Int32)) + (own_isK xs za (1 : Int32))) + (own_isK xs za (2 : Int32))) + (own_isK xs za (3 : Int32))) + (own_isK xs za (4 : Int32)))), .val (.int (-1 : Int32))] [(.int (own_sc xs 0 0 0))]))
          refine own_st (fun _ k => XS.iload X17.here hx rfl (hb hby at_382) rfl k) ?_
          show own_Gl _ _ _ _ _ _ _ (T17.setTop (mkF m 384 #[.val (.int p1), .val (.int p2), .val (.int ((p2 &&& (2147483647 : Int32)) % (6 : Int32))), .val (.int x3), .val (.int x4), .val (.int x5), .val (.int x6), .val (.int x7), .val (.ref sa), .val (.int (own_sc xs 0 0 0)), .val (.int (((((own_isU xs za (0 : Int32)) + (own_isU xs za (1 : Int32))) + (own_isU xs za (2 : Int32))) + (own_isU xs za (3 : Int32))) + (own_isU xs za (4 : Int32)))), .val (.int (((((own_isK xs za (0 : Int32)) + (own_isK xs za (1 : Int32))) + (own_isK xs za (2 : Int32))) + (own_isK xs za (3 : Int32))) + (own_isK xs za (4 : Int32)))), .val (.int (-1 : Int32))] [(.int (-1 : Int32)), (.int (own_sc xs 0 0 0))]))
          have hd18 : (own_sc xs 0 0 0) = (-1 : Int32) := (by rw [hgood, own_expect, if_neg hc274, if_neg hc299, if_pos hc308] <;> rfl)
          refine own_st (fun _ k => XS.icmpNo X17.here hx rfl (hb hby at_384) rfl (teq hd18).2 k) ?_
          show own_Gl _ _ _ _ _ _ _ (T17.setTop (mkF m 387 #[.val (.int p1), .val (.int p2), .val (.int ((p2 &&& (2147483647 : Int32)) % (6 : Int32))), .val (.int x3), .val (.int x4), .val (.int x5), .val (.int x6), .val (.int x7), .val (.ref sa), .val (.int (own_sc xs 0 0 0)), .val (.int (((((own_isU xs za (0 : Int32)) + (own_isU xs za (1 : Int32))) + (own_isU xs za (2 : Int32))) + (own_isU xs za (3 : Int32))) + (own_isU xs za (4 : Int32)))), .val (.int (((((own_isK xs za (0 : Int32)) + (own_isK xs za (1 : Int32))) + (own_isK xs za (2 : Int32))) + (own_isK xs za (3 : Int32))) + (own_isK xs za (4 : Int32)))), .val (.int (-1 : Int32))] []))
          refine own_st (fun _ k => XS.iconst X17.here hx rfl (hb hby at_387) k) ?_
          show own_Gl _ _ _ _ _ _ _ (T17.setTop (mkF m 388 #[.val (.int p1), .val (.int p2), .val (.int ((p2 &&& (2147483647 : Int32)) % (6 : Int32))), .val (.int x3), .val (.int x4), .val (.int x5), .val (.int x6), .val (.int x7), .val (.ref sa), .val (.int (own_sc xs 0 0 0)), .val (.int (((((own_isU xs za (0 : Int32)) + (own_isU xs za (1 : Int32))) + (own_isU xs za (2 : Int32))) + (own_isU xs za (3 : Int32))) + (own_isU xs za (4 : Int32)))), .val (.int (((((own_isK xs za (0 : Int32)) + (own_isK xs za (1 : Int32))) + (own_isK xs za (2 : Int32))) + (own_isK xs za (3 : Int32))) + (own_isK xs za (4 : Int32)))), .val (.int (-1 : Int32))] [(.int (1 : Int32))]))
          refine own_st (fun _ k => XS.goto X17.here hx rfl (pc0 := 388) (pc' := 392) rfl (hb hby at_388) (by decide) (by decide) k) ?_
          show own_Gl _ _ _ _ _ _ _ (T17.setTop (mkF m 392 #[.val (.int p1), .val (.int p2), .val (.int ((p2 &&& (2147483647 : Int32)) % (6 : Int32))), .val (.int x3), .val (.int x4), .val (.int x5), .val (.int x6), .val (.int x7), .val (.ref sa), .val (.int (own_sc xs 0 0 0)), .val (.int (((((own_isU xs za (0 : Int32)) + (own_isU xs za (1 : Int32))) + (own_isU xs za (2 : Int32))) + (own_isU xs za (3 : Int32))) + (own_isU xs za (4 : Int32)))), .val (.int (((((own_isK xs za (0 : Int32)) + (own_isK xs za (1 : Int32))) + (own_isK xs za (2 : Int32))) + (own_isK xs za (3 : Int32))) + (own_isK xs za (4 : Int32)))), .val (.int (-1 : Int32))] [(.int (1 : Int32))]))
          exact own_retN X17 hx hlk (t := .boolean) hret (by simp) (hb hby at_392) e17 ⟨rfl, N17⟩ (by decide) (by decide)
        · refine own_st (fun _ k => XS.ifNo X17.here hx rfl (hb hby at_308) rfl ((if0 _ _).trans (feq hc308).1) k) ?_
          show own_Gl _ _ _ _ _ _ _ (T17.setTop (mkF m 311 #[.val (.int p1), .val (.int p2), .val (.int ((p2 &&& (2147483647 : Int32)) % (6 : Int32))), .val (.int x3), .val (.int x4), .val (.int x5), .val (.int x6), .val (.int x7), .val (.ref sa), .val (.int (own_sc xs 0 0 0)), .val (.int (((((own_isU xs za (0 : Int32)) + (own_isU xs za (1 : Int32))) + (own_isU xs za (2 : Int32))) + (own_isU xs za (3 : Int32))) + (own_isU xs za (4 : Int32)))), .val (.int (((((own_isK xs za (0 : Int32)) + (own_isK xs za (1 : Int32))) + (own_isK xs za (2 : Int32))) + (own_isK xs za (3 : Int32))) + (own_isK xs za (4 : Int32)))), .unset] []))
          refine own_st (fun _ k => XS.aload X17.here hx rfl (hb hby at_311) rfl rfl k) ?_
          show own_Gl _ _ _ _ _ _ _ (T17.setTop (mkF m 313 #[.val (.int p1), .val (.int p2), .val (.int ((p2 &&& (2147483647 : Int32)) % (6 : Int32))), .val (.int x3), .val (.int x4), .val (.int x5), .val (.int x6), .val (.int x7), .val (.ref sa), .val (.int (own_sc xs 0 0 0)), .val (.int (((((own_isU xs za (0 : Int32)) + (own_isU xs za (1 : Int32))) + (own_isU xs za (2 : Int32))) + (own_isU xs za (3 : Int32))) + (own_isU xs za (4 : Int32)))), .val (.int (((((own_isK xs za (0 : Int32)) + (own_isK xs za (1 : Int32))) + (own_isK xs za (2 : Int32))) + (own_isK xs za (3 : Int32))) + (own_isK xs za (4 : Int32)))), .unset] [(.ref sa)]))
          refine own_st (fun _ k => XS.iconst X17.here hx rfl (hb hby at_313) k) ?_
          show own_Gl _ _ _ _ _ _ _ (T17.setTop (mkF m 314 #[.val (.int p1), .val (.int p2), .val (.int ((p2 &&& (2147483647 : Int32)) % (6 : Int32))), .val (.int x3), .val (.int x4), .val (.int x5), .val (.int x6), .val (.int x7), .val (.ref sa), .val (.int (own_sc xs 0 0 0)), .val (.int (((((own_isU xs za (0 : Int32)) + (own_isU xs za (1 : Int32))) + (own_isU xs za (2 : Int32))) + (own_isU xs za (3 : Int32))) + (own_isU xs za (4 : Int32)))), .val (.int (((((own_isK xs za (0 : Int32)) + (own_isK xs za (1 : Int32))) + (own_isK xs za (2 : Int32))) + (own_isK xs za (3 : Int32))) + (own_isK xs za (4 : Int32)))), .unset] [(.int (2 : Int32)), (.ref sa)]))
          obtain ⟨_, _, ⟨T19, L19, k19, n19⟩, -, X19, ⟨Lc19, hQ19, l19, y19, z19⟩, st19⟩ := Jvm.LawKit.callS X17 hx (y := (⟨"org/benli/core/BernsteinSignChangesPinLaw", "pinned", "([II)Z"⟩ : MethodName)) hown (mvT hZ (hw _ (List.mem_of_getElem? (i := 19) rfl))) (mvT hZ (hw _ (List.mem_of_getElem? (i := 20) rfl))) (mvT hZ (hw _ (List.mem_of_getElem? (i := 8) rfl))) (mvT hZ (hw _ (List.mem_of_getElem? (i := 21) rfl))) (by decide) (backOf (W := 0) (own_r_pinned l Z a0 hw [] sa ka za xs (2 : Int32) h1 n0 Zs1 fj1_0) hZ (hw _ (List.mem_of_getElem? (i := 21) rfl)) (hw _ (List.mem_of_getElem? (i := 8) rfl)) (by decide) (by decide)) (g := (mkF m 314 #[.val (.int p1), .val (.int p2), .val (.int ((p2 &&& (2147483647 : Int32)) % (6 : Int32))), .val (.int x3), .val (.int x4), .val (.int x5), .val (.int x6), .val (.int x7), .val (.ref sa), .val (.int (own_sc xs 0 0 0)), .val (.int (((((own_isU xs za (0 : Int32)) + (own_isU xs za (1 : Int32))) + (own_isU xs za (2 : Int32))) + (own_isU xs za (3 : Int32))) + (own_isU xs za (4 : Int32)))), .val (.int (((((own_isK xs za (0 : Int32)) + (own_isK xs za (1 : Int32))) + (own_isK xs za (2 : Int32))) + (own_isK xs za (3 : Int32))) + (own_isK xs za (4 : Int32)))), .unset] [(.int (2 : Int32)), (.ref sa)])) rfl (by rw [hml]; rfl) (argsL := [(.ref sa), (.int (2 : Int32))]) (rest := []) (lenOf own_pd144447708 rfl) rfl (by show 2 * 0 + _ ≤ _; exact Nat.le_of_eq rfl) (hb hby at_314) (fun _ _ => ⟨rfl, e17, (by decide : 1 + 0 ≤ room_1.cells), (by decide : 5 + 0 ≤ room_1.slots)⟩)
          dsimp only [Pt.U, Pt.locs, Pt.cells, Pt.slots] at X19 l19 y19 z19 st19 hQ19
          subst l19 y19 z19
          obtain ⟨hh19, eh019⟩ : ∃ z, T19.heap = z := ⟨_, rfl⟩
          rw [eh019] at hQ19
          obtain ⟨rfl, Nq19, eh19⟩ := hQ19
          have N19 := Fr.app N17 Nq19
          refine own_st st19 ?_
          have e19 : T19.heap = h1 := eh019.trans eh19
          show own_Gl _ _ _ _ _ _ _ (T19.setTop (mkF m 317 #[.val (.int p1), .val (.int p2), .val (.int ((p2 &&& (2147483647 : Int32)) % (6 : Int32))), .val (.int x3), .val (.int x4), .val (.int x5), .val (.int x6), .val (.int x7), .val (.ref sa), .val (.int (own_sc xs 0 0 0)), .val (.int (((((own_isU xs za (0 : Int32)) + (own_isU xs za (1 : Int32))) + (own_isU xs za (2 : Int32))) + (own_isU xs za (3 : Int32))) + (own_isU xs za (4 : Int32)))), .val (.int (((((own_isK xs za (0 : Int32)) + (own_isK xs za (1 : Int32))) + (own_isK xs za (2 : Int32))) + (own_isK xs za (3 : Int32))) + (own_isK xs za (4 : Int32)))), .unset] [(.int (own_pinned xs za (2 : Int32)))]))
          by_cases hc317 : (own_pinned xs za (2 : Int32)) = (0 : Int32)
          · refine own_st (fun _ k => XS.ifYes X19.here hx rfl (pc0 := 317) (pc' := 338) rfl (hb hby at_317) rfl ((if0 _ _).trans (teq hc317).1) (by decide) (by decide) k) ?_
            show own_Gl _ _ _ _ _ _ _ (T19.setTop (mkF m 338 #[.val (.int p1), .val (.int p2), .val (.int ((p2 &&& (2147483647 : Int32)) % (6 : Int32))), .val (.int x3), .val (.int x4), .val (.int x5), .val (.int x6), .val (.int x7), .val (.ref sa), .val (.int (own_sc xs 0 0 0)), .val (.int (((((own_isU xs za (0 : Int32)) + (own_isU xs za (1 : Int32))) + (own_isU xs za (2 : Int32))) + (own_isU xs za (3 : Int32))) + (own_isU xs za (4 : Int32)))), .val (.int (((((own_isK xs za (0 : Int32)) + (own_isK xs za (1 : Int32))) + (own_isK xs za (2 : Int32))) + (own_isK xs za (3 : Int32))) + (own_isK xs za (4 : Int32)))), .unset] []))
            refine own_st (fun _ k => XS.iconst X19.here hx rfl (hb hby at_338) k) ?_
            show own_Gl _ _ _ _ _ _ _ (T19.setTop (mkF m 339 #[.val (.int p1), .val (.int p2), .val (.int ((p2 &&& (2147483647 : Int32)) % (6 : Int32))), .val (.int x3), .val (.int x4), .val (.int x5), .val (.int x6), .val (.int x7), .val (.ref sa), .val (.int (own_sc xs 0 0 0)), .val (.int (((((own_isU xs za (0 : Int32)) + (own_isU xs za (1 : Int32))) + (own_isU xs za (2 : Int32))) + (own_isU xs za (3 : Int32))) + (own_isU xs za (4 : Int32)))), .val (.int (((((own_isK xs za (0 : Int32)) + (own_isK xs za (1 : Int32))) + (own_isK xs za (2 : Int32))) + (own_isK xs za (3 : Int32))) + (own_isK xs za (4 : Int32)))), .unset] [(.int (-1 : Int32))]))
            refine own_st (fun _ k => XS.istore X19.here hx rfl (hb hby at_339) rfl (l' := #[.val (.int p1), .val (.int p2), .val (.int ((p2 &&& (2147483647 : Int32)) % (6 : Int32))), .val (.int x3), .val (.int x4), .val (.int x5), .val (.int x6), .val (.int x7), .val (.ref sa), .val (.int (own_sc xs 0 0 0)), .val (.int (((((own_isU xs za (0 : Int32)) + (own_isU xs za (1 : Int32))) + (own_isU xs za (2 : Int32))) + (own_isU xs za (3 : Int32))) + (own_isU xs za (4 : Int32)))), .val (.int (((((own_isK xs za (0 : Int32)) + (own_isK xs za (1 : Int32))) + (own_isK xs za (2 : Int32))) + (own_isK xs za (3 : Int32))) + (own_isK xs za (4 : Int32)))), .val (.int (-1 : Int32))]) rfl k) ?_
            show own_Gl _ _ _ _ _ _ _ (T19.setTop (mkF m 341 #[.val (.int p1), .val (.int p2), .val (.int ((p2 &&& (2147483647 : Int32)) % (6 : Int32))), .val (.int x3), .val (.int x4), .val (.int x5), .val (.int x6), .val (.int x7), .val (.ref sa), .val (.int (own_sc xs 0 0 0)), .val (.int (((((own_isU xs za (0 : Int32)) + (own_isU xs za (1 : Int32))) + (own_isU xs za (2 : Int32))) + (own_isU xs za (3 : Int32))) + (own_isU xs za (4 : Int32)))), .val (.int (((((own_isK xs za (0 : Int32)) + (own_isK xs za (1 : Int32))) + (own_isK xs za (2 : Int32))) + (own_isK xs za (3 : Int32))) + (own_isK xs za (4 : Int32)))), .val (.int (-1 : Int32))] []))
            refine own_st (fun _ k => XS.goto X19.here hx rfl (pc0 := 341) (pc' := 380) rfl (hb hby at_341) (by decide) (by decide) k) ?_
            show own_Gl _ _ _ _ _ _ _ (T19.setTop (mkF m 380 #[.val (.int p1), .val (.int p2), .val (.int ((p2 &&& (2147483647 : Int32)) % (6 : Int32))), .val (.int x3), .val (.int x4), .val (.int x5), .val (.int x6), .val (.int x7), .val (.ref sa), .val (.int (own_sc xs 0 0 0)), .val (.int (((((own_isU xs za (0 : Int32)) + (own_isU xs za (1 : Int32))) + (own_isU xs za (2 : Int32))) + (own_isU xs za (3 : Int32))) + (own_isU xs za (4 : Int32)))), .val (.int (((((own_isK xs za (0 : Int32)) + (own_isK xs za (1 : Int32))) + (own_isK xs za (2 : Int32))) + (own_isK xs za (3 : Int32))) + (own_isK xs za (4 : Int32)))), .val (.int (-1 : Int32))] []))
            refine own_st (fun _ k => XS.iload X19.here hx rfl (hb hby at_380) rfl k) ?_
            show own_Gl _ _ _ _ _ _ _ (T19.setTop (mkF m 382 #[.val (.int p1), .val (.int p2), .val (.int ((p2 &&& (2147483647 : Int32)) % (6 : Int32))), .val (.int x3), .val (.int x4), .val (.int x5), .val (.int x6), .val (.int x7), .val (.ref sa), .val (.int (own_sc xs 0 0 0)), .val (.int (((((own_isU xs za (0 : Int32)) + (own_isU xs za (1 : Int32))) + (own_isU xs za (2 : Int32))) + (own_isU xs za (3 : Int32))) + (own_isU xs za (4 : Int32)))), .val (.int (((((own_isK xs za (0 : Int32)) + (own_isK xs za (1 : Int32))) + (own_isK xs za (2 : Int32))) + (own_isK xs za (3 : Int32))) + (own_isK xs za (4 : Int32)))), .val (.int (-1 : Int32))] [(.int (own_sc xs 0 0 0))]))
            refine own_st (fun _ k => XS.iload X19.here hx rfl (hb hby at_382) rfl k) ?_
            show own_Gl _ _ _ _ _ _ _ (T19.setTop (mkF m 384 #[.val (.int p1), .val (.int p2), .val (.int ((p2 &&& (2147483647 : Int32)) % (6 : Int32))), .val (.int x3), .val (.int x4), .val (.int x5), .val (.int x6), .val (.int x7), .val (.ref sa), .val (.int (own_sc xs 0 0 0)), .val (.int (((((own_isU xs za (0 : Int32)) + (own_isU xs za (1 : Int32))) + (own_isU xs za (2 : Int32))) + (own_isU xs za (3 : Int32))) + (own_isU xs za (4 : Int32)))), .val (.int (((((own_isK xs za (0 : Int32)) + (own_isK xs za (1 : Int32))) + (own_isK xs za (2 : Int32))) + (own_isK xs za (3 : Int32))) + (own_isK xs za (4 : Int32)))), .val (.int (-1 : Int32))] [(.int (-1 : Int32)), (.int (own_sc xs 0 0 0))]))
            have hd20 : (own_sc xs 0 0 0) = (-1 : Int32) := (by rw [hgood, own_expect, if_neg hc274, if_neg hc299, if_neg hc308, if_pos hc317] <;> rfl)
            refine own_st (fun _ k => XS.icmpNo X19.here hx rfl (hb hby at_384) rfl (teq hd20).2 k) ?_
            show own_Gl _ _ _ _ _ _ _ (T19.setTop (mkF m 387 #[.val (.int p1), .val (.int p2), .val (.int ((p2 &&& (2147483647 : Int32)) % (6 : Int32))), .val (.int x3), .val (.int x4), .val (.int x5), .val (.int x6), .val (.int x7), .val (.ref sa), .val (.int (own_sc xs 0 0 0)), .val (.int (((((own_isU xs za (0 : Int32)) + (own_isU xs za (1 : Int32))) + (own_isU xs za (2 : Int32))) + (own_isU xs za (3 : Int32))) + (own_isU xs za (4 : Int32)))), .val (.int (((((own_isK xs za (0 : Int32)) + (own_isK xs za (1 : Int32))) + (own_isK xs za (2 : Int32))) + (own_isK xs za (3 : Int32))) + (own_isK xs za (4 : Int32)))), .val (.int (-1 : Int32))] []))
            refine own_st (fun _ k => XS.iconst X19.here hx rfl (hb hby at_387) k) ?_
            show own_Gl _ _ _ _ _ _ _ (T19.setTop (mkF m 388 #[.val (.int p1), .val (.int p2), .val (.int ((p2 &&& (2147483647 : Int32)) % (6 : Int32))), .val (.int x3), .val (.int x4), .val (.int x5), .val (.int x6), .val (.int x7), .val (.ref sa), .val (.int (own_sc xs 0 0 0)), .val (.int (((((own_isU xs za (0 : Int32)) + (own_isU xs za (1 : Int32))) + (own_isU xs za (2 : Int32))) + (own_isU xs za (3 : Int32))) + (own_isU xs za (4 : Int32)))), .val (.int (((((own_isK xs za (0 : Int32)) + (own_isK xs za (1 : Int32))) + (own_isK xs za (2 : Int32))) + (own_isK xs za (3 : Int32))) + (own_isK xs za (4 : Int32)))), .val (.int (-1 : Int32))] [(.int (1 : Int32))]))
            refine own_st (fun _ k => XS.goto X19.here hx rfl (pc0 := 388) (pc' := 392) rfl (hb hby at_388) (by decide) (by decide) k) ?_
            show own_Gl _ _ _ _ _ _ _ (T19.setTop (mkF m 392 #[.val (.int p1), .val (.int p2), .val (.int ((p2 &&& (2147483647 : Int32)) % (6 : Int32))), .val (.int x3), .val (.int x4), .val (.int x5), .val (.int x6), .val (.int x7), .val (.ref sa), .val (.int (own_sc xs 0 0 0)), .val (.int (((((own_isU xs za (0 : Int32)) + (own_isU xs za (1 : Int32))) + (own_isU xs za (2 : Int32))) + (own_isU xs za (3 : Int32))) + (own_isU xs za (4 : Int32)))), .val (.int (((((own_isK xs za (0 : Int32)) + (own_isK xs za (1 : Int32))) + (own_isK xs za (2 : Int32))) + (own_isK xs za (3 : Int32))) + (own_isK xs za (4 : Int32)))), .val (.int (-1 : Int32))] [(.int (1 : Int32))]))
            exact own_retN X19 hx hlk (t := .boolean) hret (by simp) (hb hby at_392) e19 ⟨rfl, N19⟩ (by decide) (by decide)
          · refine own_st (fun _ k => XS.ifNo X19.here hx rfl (hb hby at_317) rfl ((if0 _ _).trans (feq hc317).1) k) ?_
            show own_Gl _ _ _ _ _ _ _ (T19.setTop (mkF m 320 #[.val (.int p1), .val (.int p2), .val (.int ((p2 &&& (2147483647 : Int32)) % (6 : Int32))), .val (.int x3), .val (.int x4), .val (.int x5), .val (.int x6), .val (.int x7), .val (.ref sa), .val (.int (own_sc xs 0 0 0)), .val (.int (((((own_isU xs za (0 : Int32)) + (own_isU xs za (1 : Int32))) + (own_isU xs za (2 : Int32))) + (own_isU xs za (3 : Int32))) + (own_isU xs za (4 : Int32)))), .val (.int (((((own_isK xs za (0 : Int32)) + (own_isK xs za (1 : Int32))) + (own_isK xs za (2 : Int32))) + (own_isK xs za (3 : Int32))) + (own_isK xs za (4 : Int32)))), .unset] []))
            refine own_st (fun _ k => XS.aload X19.here hx rfl (hb hby at_320) rfl rfl k) ?_
            show own_Gl _ _ _ _ _ _ _ (T19.setTop (mkF m 322 #[.val (.int p1), .val (.int p2), .val (.int ((p2 &&& (2147483647 : Int32)) % (6 : Int32))), .val (.int x3), .val (.int x4), .val (.int x5), .val (.int x6), .val (.int x7), .val (.ref sa), .val (.int (own_sc xs 0 0 0)), .val (.int (((((own_isU xs za (0 : Int32)) + (own_isU xs za (1 : Int32))) + (own_isU xs za (2 : Int32))) + (own_isU xs za (3 : Int32))) + (own_isU xs za (4 : Int32)))), .val (.int (((((own_isK xs za (0 : Int32)) + (own_isK xs za (1 : Int32))) + (own_isK xs za (2 : Int32))) + (own_isK xs za (3 : Int32))) + (own_isK xs za (4 : Int32)))), .unset] [(.ref sa)]))
            refine own_st (fun _ k => XS.iconst X19.here hx rfl (hb hby at_322) k) ?_
            show own_Gl _ _ _ _ _ _ _ (T19.setTop (mkF m 323 #[.val (.int p1), .val (.int p2), .val (.int ((p2 &&& (2147483647 : Int32)) % (6 : Int32))), .val (.int x3), .val (.int x4), .val (.int x5), .val (.int x6), .val (.int x7), .val (.ref sa), .val (.int (own_sc xs 0 0 0)), .val (.int (((((own_isU xs za (0 : Int32)) + (own_isU xs za (1 : Int32))) + (own_isU xs za (2 : Int32))) + (own_isU xs za (3 : Int32))) + (own_isU xs za (4 : Int32)))), .val (.int (((((own_isK xs za (0 : Int32)) + (own_isK xs za (1 : Int32))) + (own_isK xs za (2 : Int32))) + (own_isK xs za (3 : Int32))) + (own_isK xs za (4 : Int32)))), .unset] [(.int (3 : Int32)), (.ref sa)]))
            obtain ⟨_, _, ⟨T21, L21, k21, n21⟩, -, X21, ⟨Lc21, hQ21, l21, y21, z21⟩, st21⟩ := Jvm.LawKit.callS X19 hx (y := (⟨"org/benli/core/BernsteinSignChangesPinLaw", "pinned", "([II)Z"⟩ : MethodName)) hown (mvT hZ (hw _ (List.mem_of_getElem? (i := 19) rfl))) (mvT hZ (hw _ (List.mem_of_getElem? (i := 20) rfl))) (mvT hZ (hw _ (List.mem_of_getElem? (i := 8) rfl))) (mvT hZ (hw _ (List.mem_of_getElem? (i := 21) rfl))) (by decide) (backOf (W := 0) (own_r_pinned l Z a0 hw [] sa ka za xs (3 : Int32) h1 n0 Zs1 fj1_0) hZ (hw _ (List.mem_of_getElem? (i := 21) rfl)) (hw _ (List.mem_of_getElem? (i := 8) rfl)) (by decide) (by decide)) (g := (mkF m 323 #[.val (.int p1), .val (.int p2), .val (.int ((p2 &&& (2147483647 : Int32)) % (6 : Int32))), .val (.int x3), .val (.int x4), .val (.int x5), .val (.int x6), .val (.int x7), .val (.ref sa), .val (.int (own_sc xs 0 0 0)), .val (.int (((((own_isU xs za (0 : Int32)) + (own_isU xs za (1 : Int32))) + (own_isU xs za (2 : Int32))) + (own_isU xs za (3 : Int32))) + (own_isU xs za (4 : Int32)))), .val (.int (((((own_isK xs za (0 : Int32)) + (own_isK xs za (1 : Int32))) + (own_isK xs za (2 : Int32))) + (own_isK xs za (3 : Int32))) + (own_isK xs za (4 : Int32)))), .unset] [(.int (3 : Int32)), (.ref sa)])) rfl (by rw [hml]; rfl) (argsL := [(.ref sa), (.int (3 : Int32))]) (rest := []) (lenOf own_pd144447708 rfl) rfl (by show 2 * 0 + _ ≤ _; exact Nat.le_of_eq rfl) (hb hby at_323) (fun _ _ => ⟨rfl, e19, (by decide : 1 + 0 ≤ room_1.cells), (by decide : 5 + 0 ≤ room_1.slots)⟩)
            dsimp only [Pt.U, Pt.locs, Pt.cells, Pt.slots] at X21 l21 y21 z21 st21 hQ21
            subst l21 y21 z21
            obtain ⟨hh21, eh021⟩ : ∃ z, T21.heap = z := ⟨_, rfl⟩
            rw [eh021] at hQ21
            obtain ⟨rfl, Nq21, eh21⟩ := hQ21
            have N21 := Fr.app N19 Nq21
            refine own_st st21 ?_
            have e21 : T21.heap = h1 := eh021.trans eh21
            show own_Gl _ _ _ _ _ _ _ (T21.setTop (mkF m 326 #[.val (.int p1), .val (.int p2), .val (.int ((p2 &&& (2147483647 : Int32)) % (6 : Int32))), .val (.int x3), .val (.int x4), .val (.int x5), .val (.int x6), .val (.int x7), .val (.ref sa), .val (.int (own_sc xs 0 0 0)), .val (.int (((((own_isU xs za (0 : Int32)) + (own_isU xs za (1 : Int32))) + (own_isU xs za (2 : Int32))) + (own_isU xs za (3 : Int32))) + (own_isU xs za (4 : Int32)))), .val (.int (((((own_isK xs za (0 : Int32)) + (own_isK xs za (1 : Int32))) + (own_isK xs za (2 : Int32))) + (own_isK xs za (3 : Int32))) + (own_isK xs za (4 : Int32)))), .unset] [(.int (own_pinned xs za (3 : Int32)))]))
            by_cases hc326 : (own_pinned xs za (3 : Int32)) = (0 : Int32)
            · refine own_st (fun _ k => XS.ifYes X21.here hx rfl (pc0 := 326) (pc' := 338) rfl (hb hby at_326) rfl ((if0 _ _).trans (teq hc326).1) (by decide) (by decide) k) ?_
              show own_Gl _ _ _ _ _ _ _ (T21.setTop (mkF m 338 #[.val (.int p1), .val (.int p2), .val (.int ((p2 &&& (2147483647 : Int32)) % (6 : Int32))), .val (.int x3), .val (.int x4), .val (.int x5), .val (.int x6), .val (.int x7), .val (.ref sa), .val (.int (own_sc xs 0 0 0)), .val (.int (((((own_isU xs za (0 : Int32)) + (own_isU xs za (1 : Int32))) + (own_isU xs za (2 : Int32))) + (own_isU xs za (3 : Int32))) + (own_isU xs za (4 : Int32)))), .val (.int (((((own_isK xs za (0 : Int32)) + (own_isK xs za (1 : Int32))) + (own_isK xs za (2 : Int32))) + (own_isK xs za (3 : Int32))) + (own_isK xs za (4 : Int32)))), .unset] []))
              refine own_st (fun _ k => XS.iconst X21.here hx rfl (hb hby at_338) k) ?_
              show own_Gl _ _ _ _ _ _ _ (T21.setTop (mkF m 339 #[.val (.int p1), .val (.int p2), .val (.int ((p2 &&& (2147483647 : Int32)) % (6 : Int32))), .val (.int x3), .val (.int x4), .val (.int x5), .val (.int x6), .val (.int x7), .val (.ref sa), .val (.int (own_sc xs 0 0 0)), .val (.int (((((own_isU xs za (0 : Int32)) + (own_isU xs za (1 : Int32))) + (own_isU xs za (2 : Int32))) + (own_isU xs za (3 : Int32))) + (own_isU xs za (4 : Int32)))), .val (.int (((((own_isK xs za (0 : Int32)) + (own_isK xs za (1 : Int32))) + (own_isK xs za (2 : Int32))) + (own_isK xs za (3 : Int32))) + (own_isK xs za (4 : Int32)))), .unset] [(.int (-1 : Int32))]))
              refine own_st (fun _ k => XS.istore X21.here hx rfl (hb hby at_339) rfl (l' := #[.val (.int p1), .val (.int p2), .val (.int ((p2 &&& (2147483647 : Int32)) % (6 : Int32))), .val (.int x3), .val (.int x4), .val (.int x5), .val (.int x6), .val (.int x7), .val (.ref sa), .val (.int (own_sc xs 0 0 0)), .val (.int (((((own_isU xs za (0 : Int32)) + (own_isU xs za (1 : Int32))) + (own_isU xs za (2 : Int32))) + (own_isU xs za (3 : Int32))) + (own_isU xs za (4 : Int32)))), .val (.int (((((own_isK xs za (0 : Int32)) + (own_isK xs za (1 : Int32))) + (own_isK xs za (2 : Int32))) + (own_isK xs za (3 : Int32))) + (own_isK xs za (4 : Int32)))), .val (.int (-1 : Int32))]) rfl k) ?_
              show own_Gl _ _ _ _ _ _ _ (T21.setTop (mkF m 341 #[.val (.int p1), .val (.int p2), .val (.int ((p2 &&& (2147483647 : Int32)) % (6 : Int32))), .val (.int x3), .val (.int x4), .val (.int x5), .val (.int x6), .val (.int x7), .val (.ref sa), .val (.int (own_sc xs 0 0 0)), .val (.int (((((own_isU xs za (0 : Int32)) + (own_isU xs za (1 : Int32))) + (own_isU xs za (2 : Int32))) + (own_isU xs za (3 : Int32))) + (own_isU xs za (4 : Int32)))), .val (.int (((((own_isK xs za (0 : Int32)) + (own_isK xs za (1 : Int32))) + (own_isK xs za (2 : Int32))) + (own_isK xs za (3 : Int32))) + (own_isK xs za (4 : Int32)))), .val (.int (-1 : Int32))] []))
              refine own_st (fun _ k => XS.goto X21.here hx rfl (pc0 := 341) (pc' := 380) rfl (hb hby at_341) (by decide) (by decide) k) ?_
              show own_Gl _ _ _ _ _ _ _ (T21.setTop (mkF m 380 #[.val (.int p1), .val (.int p2), .val (.int ((p2 &&& (2147483647 : Int32)) % (6 : Int32))), .val (.int x3), .val (.int x4), .val (.int x5), .val (.int x6), .val (.int x7), .val (.ref sa), .val (.int (own_sc xs 0 0 0)), .val (.int (((((own_isU xs za (0 : Int32)) + (own_isU xs za (1 : Int32))) + (own_isU xs za (2 : Int32))) + (own_isU xs za (3 : Int32))) + (own_isU xs za (4 : Int32)))), .val (.int (((((own_isK xs za (0 : Int32)) + (own_isK xs za (1 : Int32))) + (own_isK xs za (2 : Int32))) + (own_isK xs za (3 : Int32))) + (own_isK xs za (4 : Int32)))), .val (.int (-1 : Int32))] []))
              refine own_st (fun _ k => XS.iload X21.here hx rfl (hb hby at_380) rfl k) ?_
              show own_Gl _ _ _ _ _ _ _ (T21.setTop (mkF m 382 #[.val (.int p1), .val (.int p2), .val (.int ((p2 &&& (2147483647 : Int32)) % (6 : Int32))), .val (.int x3), .val (.int x4), .val (.int x5), .val (.int x6), .val (.int x7), .val (.ref sa), .val (.int (own_sc xs 0 0 0)), .val (.int (((((own_isU xs za (0 : Int32)) + (own_isU xs za (1 : Int32))) + (own_isU xs za (2 : Int32))) + (own_isU xs za (3 : Int32))) + (own_isU xs za (4 : Int32)))), .val (.int (((((own_isK xs za (0 : Int32)) + (own_isK xs za (1 : Int32))) + (own_isK xs za (2 : Int32))) + (own_isK xs za (3 : Int32))) + (own_isK xs za (4 : Int32)))), .val (.int (-1 : Int32))] [(.int (own_sc xs 0 0 0))]))
              refine own_st (fun _ k => XS.iload X21.here hx rfl (hb hby at_382) rfl k) ?_
              show own_Gl _ _ _ _ _ _ _ (T21.setTop (mkF m 384 #[.val (.int p1), .val (.int p2), .val (.int ((p2 &&& (2147483647 : Int32)) % (6 : Int32))), .val (.int x3), .val (.int x4), .val (.int x5), .val (.int x6), .val (.int x7), .val (.ref sa), .val (.int (own_sc xs 0 0 0)), .val (.int (((((own_isU xs za (0 : Int32)) + (own_isU xs za (1 : Int32))) + (own_isU xs za (2 : Int32))) + (own_isU xs za (3 : Int32))) + (own_isU xs za (4 : Int32)))), .val (.int (((((own_isK xs za (0 : Int32)) + (own_isK xs za (1 : Int32))) + (own_isK xs za (2 : Int32))) + (own_isK xs za (3 : Int32))) + (own_isK xs za (4 : Int32)))), .val (.int (-1 : Int32))] [(.int (-1 : Int32)), (.int (own_sc xs 0 0 0))]))
              have hd22 : (own_sc xs 0 0 0) = (-1 : Int32) := (by rw [hgood, own_expect, if_neg hc274, if_neg hc299, if_neg hc308, if_neg hc317, if_pos hc326] <;> rfl)
              refine own_st (fun _ k => XS.icmpNo X21.here hx rfl (hb hby at_384) rfl (teq hd22).2 k) ?_
              show own_Gl _ _ _ _ _ _ _ (T21.setTop (mkF m 387 #[.val (.int p1), .val (.int p2), .val (.int ((p2 &&& (2147483647 : Int32)) % (6 : Int32))), .val (.int x3), .val (.int x4), .val (.int x5), .val (.int x6), .val (.int x7), .val (.ref sa), .val (.int (own_sc xs 0 0 0)), .val (.int (((((own_isU xs za (0 : Int32)) + (own_isU xs za (1 : Int32))) + (own_isU xs za (2 : Int32))) + (own_isU xs za (3 : Int32))) + (own_isU xs za (4 : Int32)))), .val (.int (((((own_isK xs za (0 : Int32)) + (own_isK xs za (1 : Int32))) + (own_isK xs za (2 : Int32))) + (own_isK xs za (3 : Int32))) + (own_isK xs za (4 : Int32)))), .val (.int (-1 : Int32))] []))
              refine own_st (fun _ k => XS.iconst X21.here hx rfl (hb hby at_387) k) ?_
              show own_Gl _ _ _ _ _ _ _ (T21.setTop (mkF m 388 #[.val (.int p1), .val (.int p2), .val (.int ((p2 &&& (2147483647 : Int32)) % (6 : Int32))), .val (.int x3), .val (.int x4), .val (.int x5), .val (.int x6), .val (.int x7), .val (.ref sa), .val (.int (own_sc xs 0 0 0)), .val (.int (((((own_isU xs za (0 : Int32)) + (own_isU xs za (1 : Int32))) + (own_isU xs za (2 : Int32))) + (own_isU xs za (3 : Int32))) + (own_isU xs za (4 : Int32)))), .val (.int (((((own_isK xs za (0 : Int32)) + (own_isK xs za (1 : Int32))) + (own_isK xs za (2 : Int32))) + (own_isK xs za (3 : Int32))) + (own_isK xs za (4 : Int32)))), .val (.int (-1 : Int32))] [(.int (1 : Int32))]))
              refine own_st (fun _ k => XS.goto X21.here hx rfl (pc0 := 388) (pc' := 392) rfl (hb hby at_388) (by decide) (by decide) k) ?_
              show own_Gl _ _ _ _ _ _ _ (T21.setTop (mkF m 392 #[.val (.int p1), .val (.int p2), .val (.int ((p2 &&& (2147483647 : Int32)) % (6 : Int32))), .val (.int x3), .val (.int x4), .val (.int x5), .val (.int x6), .val (.int x7), .val (.ref sa), .val (.int (own_sc xs 0 0 0)), .val (.int (((((own_isU xs za (0 : Int32)) + (own_isU xs za (1 : Int32))) + (own_isU xs za (2 : Int32))) + (own_isU xs za (3 : Int32))) + (own_isU xs za (4 : Int32)))), .val (.int (((((own_isK xs za (0 : Int32)) + (own_isK xs za (1 : Int32))) + (own_isK xs za (2 : Int32))) + (own_isK xs za (3 : Int32))) + (own_isK xs za (4 : Int32)))), .val (.int (-1 : Int32))] [(.int (1 : Int32))]))
              exact own_retN X21 hx hlk (t := .boolean) hret (by simp) (hb hby at_392) e21 ⟨rfl, N21⟩ (by decide) (by decide)
            · refine own_st (fun _ k => XS.ifNo X21.here hx rfl (hb hby at_326) rfl ((if0 _ _).trans (feq hc326).1) k) ?_
              show own_Gl _ _ _ _ _ _ _ (T21.setTop (mkF m 329 #[.val (.int p1), .val (.int p2), .val (.int ((p2 &&& (2147483647 : Int32)) % (6 : Int32))), .val (.int x3), .val (.int x4), .val (.int x5), .val (.int x6), .val (.int x7), .val (.ref sa), .val (.int (own_sc xs 0 0 0)), .val (.int (((((own_isU xs za (0 : Int32)) + (own_isU xs za (1 : Int32))) + (own_isU xs za (2 : Int32))) + (own_isU xs za (3 : Int32))) + (own_isU xs za (4 : Int32)))), .val (.int (((((own_isK xs za (0 : Int32)) + (own_isK xs za (1 : Int32))) + (own_isK xs za (2 : Int32))) + (own_isK xs za (3 : Int32))) + (own_isK xs za (4 : Int32)))), .unset] []))
              refine own_st (fun _ k => XS.aload X21.here hx rfl (hb hby at_329) rfl rfl k) ?_
              show own_Gl _ _ _ _ _ _ _ (T21.setTop (mkF m 331 #[.val (.int p1), .val (.int p2), .val (.int ((p2 &&& (2147483647 : Int32)) % (6 : Int32))), .val (.int x3), .val (.int x4), .val (.int x5), .val (.int x6), .val (.int x7), .val (.ref sa), .val (.int (own_sc xs 0 0 0)), .val (.int (((((own_isU xs za (0 : Int32)) + (own_isU xs za (1 : Int32))) + (own_isU xs za (2 : Int32))) + (own_isU xs za (3 : Int32))) + (own_isU xs za (4 : Int32)))), .val (.int (((((own_isK xs za (0 : Int32)) + (own_isK xs za (1 : Int32))) + (own_isK xs za (2 : Int32))) + (own_isK xs za (3 : Int32))) + (own_isK xs za (4 : Int32)))), .unset] [(.ref sa)]))
              refine own_st (fun _ k => XS.iconst X21.here hx rfl (hb hby at_331) k) ?_
              show own_Gl _ _ _ _ _ _ _ (T21.setTop (mkF m 332 #[.val (.int p1), .val (.int p2), .val (.int ((p2 &&& (2147483647 : Int32)) % (6 : Int32))), .val (.int x3), .val (.int x4), .val (.int x5), .val (.int x6), .val (.int x7), .val (.ref sa), .val (.int (own_sc xs 0 0 0)), .val (.int (((((own_isU xs za (0 : Int32)) + (own_isU xs za (1 : Int32))) + (own_isU xs za (2 : Int32))) + (own_isU xs za (3 : Int32))) + (own_isU xs za (4 : Int32)))), .val (.int (((((own_isK xs za (0 : Int32)) + (own_isK xs za (1 : Int32))) + (own_isK xs za (2 : Int32))) + (own_isK xs za (3 : Int32))) + (own_isK xs za (4 : Int32)))), .unset] [(.int (4 : Int32)), (.ref sa)]))
              obtain ⟨_, _, ⟨T23, L23, k23, n23⟩, -, X23, ⟨Lc23, hQ23, l23, y23, z23⟩, st23⟩ := Jvm.LawKit.callS X21 hx (y := (⟨"org/benli/core/BernsteinSignChangesPinLaw", "pinned", "([II)Z"⟩ : MethodName)) hown (mvT hZ (hw _ (List.mem_of_getElem? (i := 19) rfl))) (mvT hZ (hw _ (List.mem_of_getElem? (i := 20) rfl))) (mvT hZ (hw _ (List.mem_of_getElem? (i := 8) rfl))) (mvT hZ (hw _ (List.mem_of_getElem? (i := 21) rfl))) (by decide) (backOf (W := 0) (own_r_pinned l Z a0 hw [] sa ka za xs (4 : Int32) h1 n0 Zs1 fj1_0) hZ (hw _ (List.mem_of_getElem? (i := 21) rfl)) (hw _ (List.mem_of_getElem? (i := 8) rfl)) (by decide) (by decide)) (g := (mkF m 332 #[.val (.int p1), .val (.int p2), .val (.int ((p2 &&& (2147483647 : Int32)) % (6 : Int32))), .val (.int x3), .val (.int x4), .val (.int x5), .val (.int x6), .val (.int x7), .val (.ref sa), .val (.int (own_sc xs 0 0 0)), .val (.int (((((own_isU xs za (0 : Int32)) + (own_isU xs za (1 : Int32))) + (own_isU xs za (2 : Int32))) + (own_isU xs za (3 : Int32))) + (own_isU xs za (4 : Int32)))), .val (.int (((((own_isK xs za (0 : Int32)) + (own_isK xs za (1 : Int32))) + (own_isK xs za (2 : Int32))) + (own_isK xs za (3 : Int32))) + (own_isK xs za (4 : Int32)))), .unset] [(.int (4 : Int32)), (.ref sa)])) rfl (by rw [hml]; rfl) (argsL := [(.ref sa), (.int (4 : Int32))]) (rest := []) (lenOf own_pd144447708 rfl) rfl (by show 2 * 0 + _ ≤ _; exact Nat.le_of_eq rfl) (hb hby at_332) (fun _ _ => ⟨rfl, e21, (by decide : 1 + 0 ≤ room_1.cells), (by decide : 5 + 0 ≤ room_1.slots)⟩)
              dsimp only [Pt.U, Pt.locs, Pt.cells, Pt.slots] at X23 l23 y23 z23 st23 hQ23
              subst l23 y23 z23
              obtain ⟨hh23, eh023⟩ : ∃ z, T23.heap = z := ⟨_, rfl⟩
              rw [eh023] at hQ23
              obtain ⟨rfl, Nq23, eh23⟩ := hQ23
              have N23 := Fr.app N21 Nq23
              refine own_st st23 ?_
              have e23 : T23.heap = h1 := eh023.trans eh23
              show own_Gl _ _ _ _ _ _ _ (T23.setTop (mkF m 335 #[.val (.int p1), .val (.int p2), .val (.int ((p2 &&& (2147483647 : Int32)) % (6 : Int32))), .val (.int x3), .val (.int x4), .val (.int x5), .val (.int x6), .val (.int x7), .val (.ref sa), .val (.int (own_sc xs 0 0 0)), .val (.int (((((own_isU xs za (0 : Int32)) + (own_isU xs za (1 : Int32))) + (own_isU xs za (2 : Int32))) + (own_isU xs za (3 : Int32))) + (own_isU xs za (4 : Int32)))), .val (.int (((((own_isK xs za (0 : Int32)) + (own_isK xs za (1 : Int32))) + (own_isK xs za (2 : Int32))) + (own_isK xs za (3 : Int32))) + (own_isK xs za (4 : Int32)))), .unset] [(.int (own_pinned xs za (4 : Int32)))]))
              by_cases hc335 : (own_pinned xs za (4 : Int32)) = (0 : Int32)
              · refine own_st (fun _ k => XS.ifNo X23.here hx rfl (hb hby at_335) rfl ((if0 _ _).trans (teq hc335).2) k) ?_
                show own_Gl _ _ _ _ _ _ _ (T23.setTop (mkF m 338 #[.val (.int p1), .val (.int p2), .val (.int ((p2 &&& (2147483647 : Int32)) % (6 : Int32))), .val (.int x3), .val (.int x4), .val (.int x5), .val (.int x6), .val (.int x7), .val (.ref sa), .val (.int (own_sc xs 0 0 0)), .val (.int (((((own_isU xs za (0 : Int32)) + (own_isU xs za (1 : Int32))) + (own_isU xs za (2 : Int32))) + (own_isU xs za (3 : Int32))) + (own_isU xs za (4 : Int32)))), .val (.int (((((own_isK xs za (0 : Int32)) + (own_isK xs za (1 : Int32))) + (own_isK xs za (2 : Int32))) + (own_isK xs za (3 : Int32))) + (own_isK xs za (4 : Int32)))), .unset] []))
                refine own_st (fun _ k => XS.iconst X23.here hx rfl (hb hby at_338) k) ?_
                show own_Gl _ _ _ _ _ _ _ (T23.setTop (mkF m 339 #[.val (.int p1), .val (.int p2), .val (.int ((p2 &&& (2147483647 : Int32)) % (6 : Int32))), .val (.int x3), .val (.int x4), .val (.int x5), .val (.int x6), .val (.int x7), .val (.ref sa), .val (.int (own_sc xs 0 0 0)), .val (.int (((((own_isU xs za (0 : Int32)) + (own_isU xs za (1 : Int32))) + (own_isU xs za (2 : Int32))) + (own_isU xs za (3 : Int32))) + (own_isU xs za (4 : Int32)))), .val (.int (((((own_isK xs za (0 : Int32)) + (own_isK xs za (1 : Int32))) + (own_isK xs za (2 : Int32))) + (own_isK xs za (3 : Int32))) + (own_isK xs za (4 : Int32)))), .unset] [(.int (-1 : Int32))]))
                refine own_st (fun _ k => XS.istore X23.here hx rfl (hb hby at_339) rfl (l' := #[.val (.int p1), .val (.int p2), .val (.int ((p2 &&& (2147483647 : Int32)) % (6 : Int32))), .val (.int x3), .val (.int x4), .val (.int x5), .val (.int x6), .val (.int x7), .val (.ref sa), .val (.int (own_sc xs 0 0 0)), .val (.int (((((own_isU xs za (0 : Int32)) + (own_isU xs za (1 : Int32))) + (own_isU xs za (2 : Int32))) + (own_isU xs za (3 : Int32))) + (own_isU xs za (4 : Int32)))), .val (.int (((((own_isK xs za (0 : Int32)) + (own_isK xs za (1 : Int32))) + (own_isK xs za (2 : Int32))) + (own_isK xs za (3 : Int32))) + (own_isK xs za (4 : Int32)))), .val (.int (-1 : Int32))]) rfl k) ?_
                show own_Gl _ _ _ _ _ _ _ (T23.setTop (mkF m 341 #[.val (.int p1), .val (.int p2), .val (.int ((p2 &&& (2147483647 : Int32)) % (6 : Int32))), .val (.int x3), .val (.int x4), .val (.int x5), .val (.int x6), .val (.int x7), .val (.ref sa), .val (.int (own_sc xs 0 0 0)), .val (.int (((((own_isU xs za (0 : Int32)) + (own_isU xs za (1 : Int32))) + (own_isU xs za (2 : Int32))) + (own_isU xs za (3 : Int32))) + (own_isU xs za (4 : Int32)))), .val (.int (((((own_isK xs za (0 : Int32)) + (own_isK xs za (1 : Int32))) + (own_isK xs za (2 : Int32))) + (own_isK xs za (3 : Int32))) + (own_isK xs za (4 : Int32)))), .val (.int (-1 : Int32))] []))
                refine own_st (fun _ k => XS.goto X23.here hx rfl (pc0 := 341) (pc' := 380) rfl (hb hby at_341) (by decide) (by decide) k) ?_
                show own_Gl _ _ _ _ _ _ _ (T23.setTop (mkF m 380 #[.val (.int p1), .val (.int p2), .val (.int ((p2 &&& (2147483647 : Int32)) % (6 : Int32))), .val (.int x3), .val (.int x4), .val (.int x5), .val (.int x6), .val (.int x7), .val (.ref sa), .val (.int (own_sc xs 0 0 0)), .val (.int (((((own_isU xs za (0 : Int32)) + (own_isU xs za (1 : Int32))) + (own_isU xs za (2 : Int32))) + (own_isU xs za (3 : Int32))) + (own_isU xs za (4 : Int32)))), .val (.int (((((own_isK xs za (0 : Int32)) + (own_isK xs za (1 : Int32))) + (own_isK xs za (2 : Int32))) + (own_isK xs za (3 : Int32))) + (own_isK xs za (4 : Int32)))), .val (.int (-1 : Int32))] []))
                refine own_st (fun _ k => XS.iload X23.here hx rfl (hb hby at_380) rfl k) ?_
                show own_Gl _ _ _ _ _ _ _ (T23.setTop (mkF m 382 #[.val (.int p1), .val (.int p2), .val (.int ((p2 &&& (2147483647 : Int32)) % (6 : Int32))), .val (.int x3), .val (.int x4), .val (.int x5), .val (.int x6), .val (.int x7), .val (.ref sa), .val (.int (own_sc xs 0 0 0)), .val (.int (((((own_isU xs za (0 : Int32)) + (own_isU xs za (1 : Int32))) + (own_isU xs za (2 : Int32))) + (own_isU xs za (3 : Int32))) + (own_isU xs za (4 : Int32)))), .val (.int (((((own_isK xs za (0 : Int32)) + (own_isK xs za (1 : Int32))) + (own_isK xs za (2 : Int32))) + (own_isK xs za (3 : Int32))) + (own_isK xs za (4 : Int32)))), .val (.int (-1 : Int32))] [(.int (own_sc xs 0 0 0))]))
                refine own_st (fun _ k => XS.iload X23.here hx rfl (hb hby at_382) rfl k) ?_
                show own_Gl _ _ _ _ _ _ _ (T23.setTop (mkF m 384 #[.val (.int p1), .val (.int p2), .val (.int ((p2 &&& (2147483647 : Int32)) % (6 : Int32))), .val (.int x3), .val (.int x4), .val (.int x5), .val (.int x6), .val (.int x7), .val (.ref sa), .val (.int (own_sc xs 0 0 0)), .val (.int (((((own_isU xs za (0 : Int32)) + (own_isU xs za (1 : Int32))) + (own_isU xs za (2 : Int32))) + (own_isU xs za (3 : Int32))) + (own_isU xs za (4 : Int32)))), .val (.int (((((own_isK xs za (0 : Int32)) + (own_isK xs za (1 : Int32))) + (own_isK xs za (2 : Int32))) + (own_isK xs za (3 : Int32))) + (own_isK xs za (4 : Int32)))), .val (.int (-1 : Int32))] [(.int (-1 : Int32)), (.int (own_sc xs 0 0 0))]))
                have hd24 : (own_sc xs 0 0 0) = (-1 : Int32) := (by rw [hgood, own_expect, if_neg hc274, if_neg hc299, if_neg hc308, if_neg hc317, if_neg hc326, if_pos hc335] <;> rfl)
                refine own_st (fun _ k => XS.icmpNo X23.here hx rfl (hb hby at_384) rfl (teq hd24).2 k) ?_
                show own_Gl _ _ _ _ _ _ _ (T23.setTop (mkF m 387 #[.val (.int p1), .val (.int p2), .val (.int ((p2 &&& (2147483647 : Int32)) % (6 : Int32))), .val (.int x3), .val (.int x4), .val (.int x5), .val (.int x6), .val (.int x7), .val (.ref sa), .val (.int (own_sc xs 0 0 0)), .val (.int (((((own_isU xs za (0 : Int32)) + (own_isU xs za (1 : Int32))) + (own_isU xs za (2 : Int32))) + (own_isU xs za (3 : Int32))) + (own_isU xs za (4 : Int32)))), .val (.int (((((own_isK xs za (0 : Int32)) + (own_isK xs za (1 : Int32))) + (own_isK xs za (2 : Int32))) + (own_isK xs za (3 : Int32))) + (own_isK xs za (4 : Int32)))), .val (.int (-1 : Int32))] []))
                refine own_st (fun _ k => XS.iconst X23.here hx rfl (hb hby at_387) k) ?_
                show own_Gl _ _ _ _ _ _ _ (T23.setTop (mkF m 388 #[.val (.int p1), .val (.int p2), .val (.int ((p2 &&& (2147483647 : Int32)) % (6 : Int32))), .val (.int x3), .val (.int x4), .val (.int x5), .val (.int x6), .val (.int x7), .val (.ref sa), .val (.int (own_sc xs 0 0 0)), .val (.int (((((own_isU xs za (0 : Int32)) + (own_isU xs za (1 : Int32))) + (own_isU xs za (2 : Int32))) + (own_isU xs za (3 : Int32))) + (own_isU xs za (4 : Int32)))), .val (.int (((((own_isK xs za (0 : Int32)) + (own_isK xs za (1 : Int32))) + (own_isK xs za (2 : Int32))) + (own_isK xs za (3 : Int32))) + (own_isK xs za (4 : Int32)))), .val (.int (-1 : Int32))] [(.int (1 : Int32))]))
                refine own_st (fun _ k => XS.goto X23.here hx rfl (pc0 := 388) (pc' := 392) rfl (hb hby at_388) (by decide) (by decide) k) ?_
                show own_Gl _ _ _ _ _ _ _ (T23.setTop (mkF m 392 #[.val (.int p1), .val (.int p2), .val (.int ((p2 &&& (2147483647 : Int32)) % (6 : Int32))), .val (.int x3), .val (.int x4), .val (.int x5), .val (.int x6), .val (.int x7), .val (.ref sa), .val (.int (own_sc xs 0 0 0)), .val (.int (((((own_isU xs za (0 : Int32)) + (own_isU xs za (1 : Int32))) + (own_isU xs za (2 : Int32))) + (own_isU xs za (3 : Int32))) + (own_isU xs za (4 : Int32)))), .val (.int (((((own_isK xs za (0 : Int32)) + (own_isK xs za (1 : Int32))) + (own_isK xs za (2 : Int32))) + (own_isK xs za (3 : Int32))) + (own_isK xs za (4 : Int32)))), .val (.int (-1 : Int32))] [(.int (1 : Int32))]))
                exact own_retN X23 hx hlk (t := .boolean) hret (by simp) (hb hby at_392) e23 ⟨rfl, N23⟩ (by decide) (by decide)
              · refine own_st (fun _ k => XS.ifYes X23.here hx rfl (pc0 := 335) (pc' := 344) rfl (hb hby at_335) rfl ((if0 _ _).trans (feq hc335).2) (by decide) (by decide) k) ?_
                show own_Gl _ _ _ _ _ _ _ (T23.setTop (mkF m 344 #[.val (.int p1), .val (.int p2), .val (.int ((p2 &&& (2147483647 : Int32)) % (6 : Int32))), .val (.int x3), .val (.int x4), .val (.int x5), .val (.int x6), .val (.int x7), .val (.ref sa), .val (.int (own_sc xs 0 0 0)), .val (.int (((((own_isU xs za (0 : Int32)) + (own_isU xs za (1 : Int32))) + (own_isU xs za (2 : Int32))) + (own_isU xs za (3 : Int32))) + (own_isU xs za (4 : Int32)))), .val (.int (((((own_isK xs za (0 : Int32)) + (own_isK xs za (1 : Int32))) + (own_isK xs za (2 : Int32))) + (own_isK xs za (3 : Int32))) + (own_isK xs za (4 : Int32)))), .unset] []))
                refine own_st (fun _ k => XS.aload X23.here hx rfl (hb hby at_344) rfl rfl k) ?_
                show own_Gl _ _ _ _ _ _ _ (T23.setTop (mkF m 346 #[.val (.int p1), .val (.int p2), .val (.int ((p2 &&& (2147483647 : Int32)) % (6 : Int32))), .val (.int x3), .val (.int x4), .val (.int x5), .val (.int x6), .val (.int x7), .val (.ref sa), .val (.int (own_sc xs 0 0 0)), .val (.int (((((own_isU xs za (0 : Int32)) + (own_isU xs za (1 : Int32))) + (own_isU xs za (2 : Int32))) + (own_isU xs za (3 : Int32))) + (own_isU xs za (4 : Int32)))), .val (.int (((((own_isK xs za (0 : Int32)) + (own_isK xs za (1 : Int32))) + (own_isK xs za (2 : Int32))) + (own_isK xs za (3 : Int32))) + (own_isK xs za (4 : Int32)))), .unset] [(.ref sa)]))
                refine own_st (fun _ k => XS.iconst X23.here hx rfl (hb hby at_346) k) ?_
                show own_Gl _ _ _ _ _ _ _ (T23.setTop (mkF m 347 #[.val (.int p1), .val (.int p2), .val (.int ((p2 &&& (2147483647 : Int32)) % (6 : Int32))), .val (.int x3), .val (.int x4), .val (.int x5), .val (.int x6), .val (.int x7), .val (.ref sa), .val (.int (own_sc xs 0 0 0)), .val (.int (((((own_isU xs za (0 : Int32)) + (own_isU xs za (1 : Int32))) + (own_isU xs za (2 : Int32))) + (own_isU xs za (3 : Int32))) + (own_isU xs za (4 : Int32)))), .val (.int (((((own_isK xs za (0 : Int32)) + (own_isK xs za (1 : Int32))) + (own_isK xs za (2 : Int32))) + (own_isK xs za (3 : Int32))) + (own_isK xs za (4 : Int32)))), .unset] [(.int (0 : Int32)), (.ref sa)]))
                obtain ⟨_, _, ⟨T25, L25, k25, n25⟩, -, X25, ⟨Lc25, hQ25, l25, y25, z25⟩, st25⟩ := Jvm.LawKit.callS X23 hx (y := (⟨"org/benli/core/BernsteinSignChangesPinLaw", "changeAt", "([II)I"⟩ : MethodName)) hown (mvT hZ (hw _ (List.mem_of_getElem? (i := 22) rfl))) (mvT hZ (hw _ (List.mem_of_getElem? (i := 23) rfl))) (mvT hZ (hw _ (List.mem_of_getElem? (i := 8) rfl))) (mvT hZ (hw _ (List.mem_of_getElem? (i := 24) rfl))) (by decide) (backOf (W := 0) (own_r_change l Z a0 hw [] sa ka za xs (0 : Int32) h1 n0 Zs1 fj1_0) hZ (hw _ (List.mem_of_getElem? (i := 24) rfl)) (hw _ (List.mem_of_getElem? (i := 8) rfl)) (by decide) (by decide)) (g := (mkF m 347 #[.val (.int p1), .val (.int p2), .val (.int ((p2 &&& (2147483647 : Int32)) % (6 : Int32))), .val (.int x3), .val (.int x4), .val (.int x5), .val (.int x6), .val (.int x7), .val (.ref sa), .val (.int (own_sc xs 0 0 0)), .val (.int (((((own_isU xs za (0 : Int32)) + (own_isU xs za (1 : Int32))) + (own_isU xs za (2 : Int32))) + (own_isU xs za (3 : Int32))) + (own_isU xs za (4 : Int32)))), .val (.int (((((own_isK xs za (0 : Int32)) + (own_isK xs za (1 : Int32))) + (own_isK xs za (2 : Int32))) + (own_isK xs za (3 : Int32))) + (own_isK xs za (4 : Int32)))), .unset] [(.int (0 : Int32)), (.ref sa)])) rfl (by rw [hml]; rfl) (argsL := [(.ref sa), (.int (0 : Int32))]) (rest := []) (lenOf own_pd144447691 rfl) rfl (by show 2 * 0 + _ ≤ _; exact Nat.le_of_eq rfl) (hb hby at_347) (fun _ _ => ⟨rfl, e23, (by decide : 1 + 0 ≤ room_1.cells), (by decide : 5 + 0 ≤ room_1.slots)⟩)
                dsimp only [Pt.U, Pt.locs, Pt.cells, Pt.slots] at X25 l25 y25 z25 st25 hQ25
                subst l25 y25 z25
                obtain ⟨hh25, eh025⟩ : ∃ z, T25.heap = z := ⟨_, rfl⟩
                rw [eh025] at hQ25
                obtain ⟨rfl, Nq25, eh25⟩ := hQ25
                have N25 := Fr.app N23 Nq25
                refine own_st st25 ?_
                have e25 : T25.heap = h1 := eh025.trans eh25
                show own_Gl _ _ _ _ _ _ _ (T25.setTop (mkF m 350 #[.val (.int p1), .val (.int p2), .val (.int ((p2 &&& (2147483647 : Int32)) % (6 : Int32))), .val (.int x3), .val (.int x4), .val (.int x5), .val (.int x6), .val (.int x7), .val (.ref sa), .val (.int (own_sc xs 0 0 0)), .val (.int (((((own_isU xs za (0 : Int32)) + (own_isU xs za (1 : Int32))) + (own_isU xs za (2 : Int32))) + (own_isU xs za (3 : Int32))) + (own_isU xs za (4 : Int32)))), .val (.int (((((own_isK xs za (0 : Int32)) + (own_isK xs za (1 : Int32))) + (own_isK xs za (2 : Int32))) + (own_isK xs za (3 : Int32))) + (own_isK xs za (4 : Int32)))), .unset] [(.int (own_change xs za (0 : Int32)))]))
                refine own_st (fun _ k => XS.aload X25.here hx rfl (hb hby at_350) rfl rfl k) ?_
                show own_Gl _ _ _ _ _ _ _ (T25.setTop (mkF m 352 #[.val (.int p1), .val (.int p2), .val (.int ((p2 &&& (2147483647 : Int32)) % (6 : Int32))), .val (.int x3), .val (.int x4), .val (.int x5), .val (.int x6), .val (.int x7), .val (.ref sa), .val (.int (own_sc xs 0 0 0)), .val (.int (((((own_isU xs za (0 : Int32)) + (own_isU xs za (1 : Int32))) + (own_isU xs za (2 : Int32))) + (own_isU xs za (3 : Int32))) + (own_isU xs za (4 : Int32)))), .val (.int (((((own_isK xs za (0 : Int32)) + (own_isK xs za (1 : Int32))) + (own_isK xs za (2 : Int32))) + (own_isK xs za (3 : Int32))) + (own_isK xs za (4 : Int32)))), .unset] [(.ref sa), (.int (own_change xs za (0 : Int32)))]))
                refine own_st (fun _ k => XS.iconst X25.here hx rfl (hb hby at_352) k) ?_
                show own_Gl _ _ _ _ _ _ _ (T25.setTop (mkF m 353 #[.val (.int p1), .val (.int p2), .val (.int ((p2 &&& (2147483647 : Int32)) % (6 : Int32))), .val (.int x3), .val (.int x4), .val (.int x5), .val (.int x6), .val (.int x7), .val (.ref sa), .val (.int (own_sc xs 0 0 0)), .val (.int (((((own_isU xs za (0 : Int32)) + (own_isU xs za (1 : Int32))) + (own_isU xs za (2 : Int32))) + (own_isU xs za (3 : Int32))) + (own_isU xs za (4 : Int32)))), .val (.int (((((own_isK xs za (0 : Int32)) + (own_isK xs za (1 : Int32))) + (own_isK xs za (2 : Int32))) + (own_isK xs za (3 : Int32))) + (own_isK xs za (4 : Int32)))), .unset] [(.int (1 : Int32)), (.ref sa), (.int (own_change xs za (0 : Int32)))]))
                obtain ⟨_, _, ⟨T26, L26, k26, n26⟩, -, X26, ⟨Lc26, hQ26, l26, y26, z26⟩, st26⟩ := Jvm.LawKit.callS X25 hx (y := (⟨"org/benli/core/BernsteinSignChangesPinLaw", "changeAt", "([II)I"⟩ : MethodName)) hown (mvT hZ (hw _ (List.mem_of_getElem? (i := 22) rfl))) (mvT hZ (hw _ (List.mem_of_getElem? (i := 23) rfl))) (mvT hZ (hw _ (List.mem_of_getElem? (i := 8) rfl))) (mvT hZ (hw _ (List.mem_of_getElem? (i := 24) rfl))) (by decide) (backOf (W := 1) (own_r_change l Z a0 hw [] sa ka za xs (1 : Int32) h1 n0 Zs1 fj1_0) hZ (hw _ (List.mem_of_getElem? (i := 24) rfl)) (hw _ (List.mem_of_getElem? (i := 8) rfl)) (by decide) (by decide)) (g := (mkF m 353 #[.val (.int p1), .val (.int p2), .val (.int ((p2 &&& (2147483647 : Int32)) % (6 : Int32))), .val (.int x3), .val (.int x4), .val (.int x5), .val (.int x6), .val (.int x7), .val (.ref sa), .val (.int (own_sc xs 0 0 0)), .val (.int (((((own_isU xs za (0 : Int32)) + (own_isU xs za (1 : Int32))) + (own_isU xs za (2 : Int32))) + (own_isU xs za (3 : Int32))) + (own_isU xs za (4 : Int32)))), .val (.int (((((own_isK xs za (0 : Int32)) + (own_isK xs za (1 : Int32))) + (own_isK xs za (2 : Int32))) + (own_isK xs za (3 : Int32))) + (own_isK xs za (4 : Int32)))), .unset] [(.int (1 : Int32)), (.ref sa), (.int (own_change xs za (0 : Int32)))])) rfl (by rw [hml]; rfl) (argsL := [(.ref sa), (.int (1 : Int32))]) (rest := [(.int (own_change xs za (0 : Int32)))]) (lenOf own_pd144447691 rfl) rfl (by show 2 * 0 + _ ≤ _; exact Nat.le_of_eq rfl) (hb hby at_353) (fun _ _ => ⟨rfl, e25, (by decide : 1 + 0 ≤ room_1.cells), (by decide : 5 + 0 ≤ room_1.slots)⟩)
                dsimp only [Pt.U, Pt.locs, Pt.cells, Pt.slots] at X26 l26 y26 z26 st26 hQ26
                subst l26 y26 z26
                obtain ⟨hh26, eh026⟩ : ∃ z, T26.heap = z := ⟨_, rfl⟩
                rw [eh026] at hQ26
                obtain ⟨rfl, Nq26, eh26⟩ := hQ26
                have N26 := Fr.app N25 Nq26
                refine own_st st26 ?_
                have e26 : T26.heap = h1 := eh026.trans eh26
                show own_Gl _ _ _ _ _ _ _ (T26.setTop (mkF m 356 #[.val (.int p1), .val (.int p2), .val (.int ((p2 &&& (2147483647 : Int32)) % (6 : Int32))), .val (.int x3), .val (.int x4), .val (.int x5), .val (.int x6), .val (.int x7), .val (.ref sa), .val (.int (own_sc xs 0 0 0)), .val (.int (((((own_isU xs za (0 : Int32)) + (own_isU xs za (1 : Int32))) + (own_isU xs za (2 : Int32))) + (own_isU xs za (3 : Int32))) + (own_isU xs za (4 : Int32)))), .val (.int (((((own_isK xs za (0 : Int32)) + (own_isK xs za (1 : Int32))) + (own_isK xs za (2 : Int32))) + (own_isK xs za (3 : Int32))) + (own_isK xs za (4 : Int32)))), .unset] [(.int (own_change xs za (1 : Int32))), (.int (own_change xs za (0 : Int32)))]))
                refine own_st (fun _ k => XS.iadd X26.here hx rfl (hb hby at_356) rfl k) ?_
                show own_Gl _ _ _ _ _ _ _ (T26.setTop (mkF m 357 #[.val (.int p1), .val (.int p2), .val (.int ((p2 &&& (2147483647 : Int32)) % (6 : Int32))), .val (.int x3), .val (.int x4), .val (.int x5), .val (.int x6), .val (.int x7), .val (.ref sa), .val (.int (own_sc xs 0 0 0)), .val (.int (((((own_isU xs za (0 : Int32)) + (own_isU xs za (1 : Int32))) + (own_isU xs za (2 : Int32))) + (own_isU xs za (3 : Int32))) + (own_isU xs za (4 : Int32)))), .val (.int (((((own_isK xs za (0 : Int32)) + (own_isK xs za (1 : Int32))) + (own_isK xs za (2 : Int32))) + (own_isK xs za (3 : Int32))) + (own_isK xs za (4 : Int32)))), .unset] [(.int ((own_change xs za (0 : Int32)) + (own_change xs za (1 : Int32))))]))
                refine own_st (fun _ k => XS.aload X26.here hx rfl (hb hby at_357) rfl rfl k) ?_
                show own_Gl _ _ _ _ _ _ _ (T26.setTop (mkF m 359 #[.val (.int p1), .val (.int p2), .val (.int ((p2 &&& (2147483647 : Int32)) % (6 : Int32))), .val (.int x3), .val (.int x4), .val (.int x5), .val (.int x6), .val (.int x7), .val (.ref sa), .val (.int (own_sc xs 0 0 0)), .val (.int (((((own_isU xs za (0 : Int32)) + (own_isU xs za (1 : Int32))) + (own_isU xs za (2 : Int32))) + (own_isU xs za (3 : Int32))) + (own_isU xs za (4 : Int32)))), .val (.int (((((own_isK xs za (0 : Int32)) + (own_isK xs za (1 : Int32))) + (own_isK xs za (2 : Int32))) + (own_isK xs za (3 : Int32))) + (own_isK xs za (4 : Int32)))), .unset] [(.ref sa), (.int ((own_change xs za (0 : Int32)) + (own_change xs za (1 : Int32))))]))
                refine own_st (fun _ k => XS.iconst X26.here hx rfl (hb hby at_359) k) ?_
                show own_Gl _ _ _ _ _ _ _ (T26.setTop (mkF m 360 #[.val (.int p1), .val (.int p2), .val (.int ((p2 &&& (2147483647 : Int32)) % (6 : Int32))), .val (.int x3), .val (.int x4), .val (.int x5), .val (.int x6), .val (.int x7), .val (.ref sa), .val (.int (own_sc xs 0 0 0)), .val (.int (((((own_isU xs za (0 : Int32)) + (own_isU xs za (1 : Int32))) + (own_isU xs za (2 : Int32))) + (own_isU xs za (3 : Int32))) + (own_isU xs za (4 : Int32)))), .val (.int (((((own_isK xs za (0 : Int32)) + (own_isK xs za (1 : Int32))) + (own_isK xs za (2 : Int32))) + (own_isK xs za (3 : Int32))) + (own_isK xs za (4 : Int32)))), .unset] [(.int (2 : Int32)), (.ref sa), (.int ((own_change xs za (0 : Int32)) + (own_change xs za (1 : Int32))))]))
                obtain ⟨_, _, ⟨T27, L27, k27, n27⟩, -, X27, ⟨Lc27, hQ27, l27, y27, z27⟩, st27⟩ := Jvm.LawKit.callS X26 hx (y := (⟨"org/benli/core/BernsteinSignChangesPinLaw", "changeAt", "([II)I"⟩ : MethodName)) hown (mvT hZ (hw _ (List.mem_of_getElem? (i := 22) rfl))) (mvT hZ (hw _ (List.mem_of_getElem? (i := 23) rfl))) (mvT hZ (hw _ (List.mem_of_getElem? (i := 8) rfl))) (mvT hZ (hw _ (List.mem_of_getElem? (i := 24) rfl))) (by decide) (backOf (W := 1) (own_r_change l Z a0 hw [] sa ka za xs (2 : Int32) h1 n0 Zs1 fj1_0) hZ (hw _ (List.mem_of_getElem? (i := 24) rfl)) (hw _ (List.mem_of_getElem? (i := 8) rfl)) (by decide) (by decide)) (g := (mkF m 360 #[.val (.int p1), .val (.int p2), .val (.int ((p2 &&& (2147483647 : Int32)) % (6 : Int32))), .val (.int x3), .val (.int x4), .val (.int x5), .val (.int x6), .val (.int x7), .val (.ref sa), .val (.int (own_sc xs 0 0 0)), .val (.int (((((own_isU xs za (0 : Int32)) + (own_isU xs za (1 : Int32))) + (own_isU xs za (2 : Int32))) + (own_isU xs za (3 : Int32))) + (own_isU xs za (4 : Int32)))), .val (.int (((((own_isK xs za (0 : Int32)) + (own_isK xs za (1 : Int32))) + (own_isK xs za (2 : Int32))) + (own_isK xs za (3 : Int32))) + (own_isK xs za (4 : Int32)))), .unset] [(.int (2 : Int32)), (.ref sa), (.int ((own_change xs za (0 : Int32)) + (own_change xs za (1 : Int32))))])) rfl (by rw [hml]; rfl) (argsL := [(.ref sa), (.int (2 : Int32))]) (rest := [(.int ((own_change xs za (0 : Int32)) + (own_change xs za (1 : Int32))))]) (lenOf own_pd144447691 rfl) rfl (by show 2 * 0 + _ ≤ _; exact Nat.le_of_eq rfl) (hb hby at_360) (fun _ _ => ⟨rfl, e26, (by decide : 1 + 0 ≤ room_1.cells), (by decide : 5 + 0 ≤ room_1.slots)⟩)
                dsimp only [Pt.U, Pt.locs, Pt.cells, Pt.slots] at X27 l27 y27 z27 st27 hQ27
                subst l27 y27 z27
                obtain ⟨hh27, eh027⟩ : ∃ z, T27.heap = z := ⟨_, rfl⟩
                rw [eh027] at hQ27
                obtain ⟨rfl, Nq27, eh27⟩ := hQ27
                have N27 := Fr.app N26 Nq27
                refine own_st st27 ?_
                have e27 : T27.heap = h1 := eh027.trans eh27
                show own_Gl _ _ _ _ _ _ _ (T27.setTop (mkF m 363 #[.val (.int p1), .val (.int p2), .val (.int ((p2 &&& (2147483647 : Int32)) % (6 : Int32))), .val (.int x3), .val (.int x4), .val (.int x5), .val (.int x6), .val (.int x7), .val (.ref sa), .val (.int (own_sc xs 0 0 0)), .val (.int (((((own_isU xs za (0 : Int32)) + (own_isU xs za (1 : Int32))) + (own_isU xs za (2 : Int32))) + (own_isU xs za (3 : Int32))) + (own_isU xs za (4 : Int32)))), .val (.int (((((own_isK xs za (0 : Int32)) + (own_isK xs za (1 : Int32))) + (own_isK xs za (2 : Int32))) + (own_isK xs za (3 : Int32))) + (own_isK xs za (4 : Int32)))), .unset] [(.int (own_change xs za (2 : Int32))), (.int ((own_change xs za (0 : Int32)) + (own_change xs za (1 : Int32))))]))
                refine own_st (fun _ k => XS.iadd X27.here hx rfl (hb hby at_363) rfl k) ?_
                show own_Gl _ _ _ _ _ _ _ (T27.setTop (mkF m 364 #[.val (.int p1), .val (.int p2), .val (.int ((p2 &&& (2147483647 : Int32)) % (6 : Int32))), .val (.int x3), .val (.int x4), .val (.int x5), .val (.int x6), .val (.int x7), .val (.ref sa), .val (.int (own_sc xs 0 0 0)), .val (.int (((((own_isU xs za (0 : Int32)) + (own_isU xs za (1 : Int32))) + (own_isU xs za (2 : Int32))) + (own_isU xs za (3 : Int32))) + (own_isU xs za (4 : Int32)))), .val (.int (((((own_isK xs za (0 : Int32)) + (own_isK xs za (1 : Int32))) + (own_isK xs za (2 : Int32))) + (own_isK xs za (3 : Int32))) + (own_isK xs za (4 : Int32)))), .unset] [(.int (((own_change xs za (0 : Int32)) + (own_change xs za (1 : Int32))) + (own_change xs za (2 : Int32))))]))
                refine own_st (fun _ k => XS.aload X27.here hx rfl (hb hby at_364) rfl rfl k) ?_
                show own_Gl _ _ _ _ _ _ _ (T27.setTop (mkF m 366 #[.val (.int p1), .val (.int p2), .val (.int ((p2 &&& (2147483647 : Int32)) % (6 : Int32))), .val (.int x3), .val (.int x4), .val (.int x5), .val (.int x6), .val (.int x7), .val (.ref sa), .val (.int (own_sc xs 0 0 0)), .val (.int (((((own_isU xs za (0 : Int32)) + (own_isU xs za (1 : Int32))) + (own_isU xs za (2 : Int32))) + (own_isU xs za (3 : Int32))) + (own_isU xs za (4 : Int32)))), .val (.int (((((own_isK xs za (0 : Int32)) + (own_isK xs za (1 : Int32))) + (own_isK xs za (2 : Int32))) + (own_isK xs za (3 : Int32))) + (own_isK xs za (4 : Int32)))), .unset] [(.ref sa), (.int (((own_change xs za (0 : Int32)) + (own_change xs za (1 : Int32))) + (own_change xs za (2 : Int32))))]))
                refine own_st (fun _ k => XS.iconst X27.here hx rfl (hb hby at_366) k) ?_
                show own_Gl _ _ _ _ _ _ _ (T27.setTop (mkF m 367 #[.val (.int p1), .val (.int p2), .val (.int ((p2 &&& (2147483647 : Int32)) % (6 : Int32))), .val (.int x3), .val (.int x4), .val (.int x5), .val (.int x6), .val (.int x7), .val (.ref sa), .val (.int (own_sc xs 0 0 0)), .val (.int (((((own_isU xs za (0 : Int32)) + (own_isU xs za (1 : Int32))) + (own_isU xs za (2 : Int32))) + (own_isU xs za (3 : Int32))) + (own_isU xs za (4 : Int32)))), .val (.int (((((own_isK xs za (0 : Int32)) + (own_isK xs za (1 : Int32))) + (own_isK xs za (2 : Int32))) + (own_isK xs za (3 : Int32))) + (own_isK xs za (4 : Int32)))), .unset] [(.int (3 : Int32)), (.ref sa), (.int (((own_change xs za (0 : Int32)) + (own_change xs za (1 : Int32))) + (own_change xs za (2 : Int32))))]))
                obtain ⟨_, _, ⟨T28, L28, k28, n28⟩, -, X28, ⟨Lc28, hQ28, l28, y28, z28⟩, st28⟩ := Jvm.LawKit.callS X27 hx (y := (⟨"org/benli/core/BernsteinSignChangesPinLaw", "changeAt", "([II)I"⟩ : MethodName)) hown (mvT hZ (hw _ (List.mem_of_getElem? (i := 22) rfl))) (mvT hZ (hw _ (List.mem_of_getElem? (i := 23) rfl))) (mvT hZ (hw _ (List.mem_of_getElem? (i := 8) rfl))) (mvT hZ (hw _ (List.mem_of_getElem? (i := 24) rfl))) (by decide) (backOf (W := 1) (own_r_change l Z a0 hw [] sa ka za xs (3 : Int32) h1 n0 Zs1 fj1_0) hZ (hw _ (List.mem_of_getElem? (i := 24) rfl)) (hw _ (List.mem_of_getElem? (i := 8) rfl)) (by decide) (by decide)) (g := (mkF m 367 #[.val (.int p1), .val (.int p2), .val (.int ((p2 &&& (2147483647 : Int32)) % (6 : Int32))), .val (.int x3), .val (.int x4), .val (.int x5), .val (.int x6), .val (.int x7), .val (.ref sa), .val (.int (own_sc xs 0 0 0)), .val (.int (((((own_isU xs za (0 : Int32)) + (own_isU xs za (1 : Int32))) + (own_isU xs za (2 : Int32))) + (own_isU xs za (3 : Int32))) + (own_isU xs za (4 : Int32)))), .val (.int (((((own_isK xs za (0 : Int32)) + (own_isK xs za (1 : Int32))) + (own_isK xs za (2 : Int32))) + (own_isK xs za (3 : Int32))) + (own_isK xs za (4 : Int32)))), .unset] [(.int (3 : Int32)), (.ref sa), (.int (((own_change xs za (0 : Int32)) + (own_change xs za (1 : Int32))) + (own_change xs za (2 : Int32))))])) rfl (by rw [hml]; rfl) (argsL := [(.ref sa), (.int (3 : Int32))]) (rest := [(.int (((own_change xs za (0 : Int32)) + (own_change xs za (1 : Int32))) + (own_change xs za (2 : Int32))))]) (lenOf own_pd144447691 rfl) rfl (by show 2 * 0 + _ ≤ _; exact Nat.le_of_eq rfl) (hb hby at_367) (fun _ _ => ⟨rfl, e27, (by decide : 1 + 0 ≤ room_1.cells), (by decide : 5 + 0 ≤ room_1.slots)⟩)
                dsimp only [Pt.U, Pt.locs, Pt.cells, Pt.slots] at X28 l28 y28 z28 st28 hQ28
                subst l28 y28 z28
                obtain ⟨hh28, eh028⟩ : ∃ z, T28.heap = z := ⟨_, rfl⟩
                rw [eh028] at hQ28
                obtain ⟨rfl, Nq28, eh28⟩ := hQ28
                have N28 := Fr.app N27 Nq28
                refine own_st st28 ?_
                have e28 : T28.heap = h1 := eh028.trans eh28
                show own_Gl _ _ _ _ _ _ _ (T28.setTop (mkF m 370 #[.val (.int p1), .val (.int p2), .val (.int ((p2 &&& (2147483647 : Int32)) % (6 : Int32))), .val (.int x3), .val (.int x4), .val (.int x5), .val (.int x6), .val (.int x7), .val (.ref sa), .val (.int (own_sc xs 0 0 0)), .val (.int (((((own_isU xs za (0 : Int32)) + (own_isU xs za (1 : Int32))) + (own_isU xs za (2 : Int32))) + (own_isU xs za (3 : Int32))) + (own_isU xs za (4 : Int32)))), .val (.int (((((own_isK xs za (0 : Int32)) + (own_isK xs za (1 : Int32))) + (own_isK xs za (2 : Int32))) + (own_isK xs za (3 : Int32))) + (own_isK xs za (4 : Int32)))), .unset] [(.int (own_change xs za (3 : Int32))), (.int (((own_change xs za (0 : Int32)) + (own_change xs za (1 : Int32))) + (own_change xs za (2 : Int32))))]))
                refine own_st (fun _ k => XS.iadd X28.here hx rfl (hb hby at_370) rfl k) ?_
                show own_Gl _ _ _ _ _ _ _ (T28.setTop (mkF m 371 #[.val (.int p1), .val (.int p2), .val (.int ((p2 &&& (2147483647 : Int32)) % (6 : Int32))), .val (.int x3), .val (.int x4), .val (.int x5), .val (.int x6), .val (.int x7), .val (.ref sa), .val (.int (own_sc xs 0 0 0)), .val (.int (((((own_isU xs za (0 : Int32)) + (own_isU xs za (1 : Int32))) + (own_isU xs za (2 : Int32))) + (own_isU xs za (3 : Int32))) + (own_isU xs za (4 : Int32)))), .val (.int (((((own_isK xs za (0 : Int32)) + (own_isK xs za (1 : Int32))) + (own_isK xs za (2 : Int32))) + (own_isK xs za (3 : Int32))) + (own_isK xs za (4 : Int32)))), .unset] [(.int ((((own_change xs za (0 : Int32)) + (own_change xs za (1 : Int32))) + (own_change xs za (2 : Int32))) + (own_change xs za (3 : Int32))))]))
                refine own_st (fun _ k => XS.aload X28.here hx rfl (hb hby at_371) rfl rfl k) ?_
                show own_Gl _ _ _ _ _ _ _ (T28.setTop (mkF m 373 #[.val (.int p1), .val (.int p2), .val (.int ((p2 &&& (2147483647 : Int32)) % (6 : Int32))), .val (.int x3), .val (.int x4), .val (.int x5), .val (.int x6), .val (.int x7), .val (.ref sa), .val (.int (own_sc xs 0 0 0)), .val (.int (((((own_isU xs za (0 : Int32)) + (own_isU xs za (1 : Int32))) + (own_isU xs za (2 : Int32))) + (own_isU xs za (3 : Int32))) + (own_isU xs za (4 : Int32)))), .val (.int (((((own_isK xs za (0 : Int32)) + (own_isK xs za (1 : Int32))) + (own_isK xs za (2 : Int32))) + (own_isK xs za (3 : Int32))) + (own_isK xs za (4 : Int32)))), .unset] [(.ref sa), (.int ((((own_change xs za (0 : Int32)) + (own_change xs za (1 : Int32))) + (own_change xs za (2 : Int32))) + (own_change xs za (3 : Int32))))]))
                refine own_st (fun _ k => XS.iconst X28.here hx rfl (hb hby at_373) k) ?_
                show own_Gl _ _ _ _ _ _ _ (T28.setTop (mkF m 374 #[.val (.int p1), .val (.int p2), .val (.int ((p2 &&& (2147483647 : Int32)) % (6 : Int32))), .val (.int x3), .val (.int x4), .val (.int x5), .val (.int x6), .val (.int x7), .val (.ref sa), .val (.int (own_sc xs 0 0 0)), .val (.int (((((own_isU xs za (0 : Int32)) + (own_isU xs za (1 : Int32))) + (own_isU xs za (2 : Int32))) + (own_isU xs za (3 : Int32))) + (own_isU xs za (4 : Int32)))), .val (.int (((((own_isK xs za (0 : Int32)) + (own_isK xs za (1 : Int32))) + (own_isK xs za (2 : Int32))) + (own_isK xs za (3 : Int32))) + (own_isK xs za (4 : Int32)))), .unset] [(.int (4 : Int32)), (.ref sa), (.int ((((own_change xs za (0 : Int32)) + (own_change xs za (1 : Int32))) + (own_change xs za (2 : Int32))) + (own_change xs za (3 : Int32))))]))
                obtain ⟨_, _, ⟨T29, L29, k29, n29⟩, -, X29, ⟨Lc29, hQ29, l29, y29, z29⟩, st29⟩ := Jvm.LawKit.callS X28 hx (y := (⟨"org/benli/core/BernsteinSignChangesPinLaw", "changeAt", "([II)I"⟩ : MethodName)) hown (mvT hZ (hw _ (List.mem_of_getElem? (i := 22) rfl))) (mvT hZ (hw _ (List.mem_of_getElem? (i := 23) rfl))) (mvT hZ (hw _ (List.mem_of_getElem? (i := 8) rfl))) (mvT hZ (hw _ (List.mem_of_getElem? (i := 24) rfl))) (by decide) (backOf (W := 1) (own_r_change l Z a0 hw [] sa ka za xs (4 : Int32) h1 n0 Zs1 fj1_0) hZ (hw _ (List.mem_of_getElem? (i := 24) rfl)) (hw _ (List.mem_of_getElem? (i := 8) rfl)) (by decide) (by decide)) (g := (mkF m 374 #[.val (.int p1), .val (.int p2), .val (.int ((p2 &&& (2147483647 : Int32)) % (6 : Int32))), .val (.int x3), .val (.int x4), .val (.int x5), .val (.int x6), .val (.int x7), .val (.ref sa), .val (.int (own_sc xs 0 0 0)), .val (.int (((((own_isU xs za (0 : Int32)) + (own_isU xs za (1 : Int32))) + (own_isU xs za (2 : Int32))) + (own_isU xs za (3 : Int32))) + (own_isU xs za (4 : Int32)))), .val (.int (((((own_isK xs za (0 : Int32)) + (own_isK xs za (1 : Int32))) + (own_isK xs za (2 : Int32))) + (own_isK xs za (3 : Int32))) + (own_isK xs za (4 : Int32)))), .unset] [(.int (4 : Int32)), (.ref sa), (.int ((((own_change xs za (0 : Int32)) + (own_change xs za (1 : Int32))) + (own_change xs za (2 : Int32))) + (own_change xs za (3 : Int32))))])) rfl (by rw [hml]; rfl) (argsL := [(.ref sa), (.int (4 : Int32))]) (rest := [(.int ((((own_change xs za (0 : Int32)) + (own_change xs za (1 : Int32))) + (own_change xs za (2 : Int32))) + (own_change xs za (3 : Int32))))]) (lenOf own_pd144447691 rfl) rfl (by show 2 * 0 + _ ≤ _; exact Nat.le_of_eq rfl) (hb hby at_374) (fun _ _ => ⟨rfl, e28, (by decide : 1 + 0 ≤ room_1.cells), (by decide : 5 + 0 ≤ room_1.slots)⟩)
                dsimp only [Pt.U, Pt.locs, Pt.cells, Pt.slots] at X29 l29 y29 z29 st29 hQ29
                subst l29 y29 z29
                obtain ⟨hh29, eh029⟩ : ∃ z, T29.heap = z := ⟨_, rfl⟩
                rw [eh029] at hQ29
                obtain ⟨rfl, Nq29, eh29⟩ := hQ29
                have N29 := Fr.app N28 Nq29
                refine own_st st29 ?_
                have e29 : T29.heap = h1 := eh029.trans eh29
                show own_Gl _ _ _ _ _ _ _ (T29.setTop (mkF m 377 #[.val (.int p1), .val (.int p2), .val (.int ((p2 &&& (2147483647 : Int32)) % (6 : Int32))), .val (.int x3), .val (.int x4), .val (.int x5), .val (.int x6), .val (.int x7), .val (.ref sa), .val (.int (own_sc xs 0 0 0)), .val (.int (((((own_isU xs za (0 : Int32)) + (own_isU xs za (1 : Int32))) + (own_isU xs za (2 : Int32))) + (own_isU xs za (3 : Int32))) + (own_isU xs za (4 : Int32)))), .val (.int (((((own_isK xs za (0 : Int32)) + (own_isK xs za (1 : Int32))) + (own_isK xs za (2 : Int32))) + (own_isK xs za (3 : Int32))) + (own_isK xs za (4 : Int32)))), .unset] [(.int (own_change xs za (4 : Int32))), (.int ((((own_change xs za (0 : Int32)) + (own_change xs za (1 : Int32))) + (own_change xs za (2 : Int32))) + (own_change xs za (3 : Int32))))]))
                refine own_st (fun _ k => XS.iadd X29.here hx rfl (hb hby at_377) rfl k) ?_
                show own_Gl _ _ _ _ _ _ _ (T29.setTop (mkF m 378 #[.val (.int p1), .val (.int p2), .val (.int ((p2 &&& (2147483647 : Int32)) % (6 : Int32))), .val (.int x3), .val (.int x4), .val (.int x5), .val (.int x6), .val (.int x7), .val (.ref sa), .val (.int (own_sc xs 0 0 0)), .val (.int (((((own_isU xs za (0 : Int32)) + (own_isU xs za (1 : Int32))) + (own_isU xs za (2 : Int32))) + (own_isU xs za (3 : Int32))) + (own_isU xs za (4 : Int32)))), .val (.int (((((own_isK xs za (0 : Int32)) + (own_isK xs za (1 : Int32))) + (own_isK xs za (2 : Int32))) + (own_isK xs za (3 : Int32))) + (own_isK xs za (4 : Int32)))), .unset] [(.int (((((own_change xs za (0 : Int32)) + (own_change xs za (1 : Int32))) + (own_change xs za (2 : Int32))) + (own_change xs za (3 : Int32))) + (own_change xs za (4 : Int32))))]))
                refine own_st (fun _ k => XS.istore X29.here hx rfl (hb hby at_378) rfl (l' := #[.val (.int p1), .val (.int p2), .val (.int ((p2 &&& (2147483647 : Int32)) % (6 : Int32))), .val (.int x3), .val (.int x4), .val (.int x5), .val (.int x6), .val (.int x7), .val (.ref sa), .val (.int (own_sc xs 0 0 0)), .val (.int (((((own_isU xs za (0 : Int32)) + (own_isU xs za (1 : Int32))) + (own_isU xs za (2 : Int32))) + (own_isU xs za (3 : Int32))) + (own_isU xs za (4 : Int32)))), .val (.int (((((own_isK xs za (0 : Int32)) + (own_isK xs za (1 : Int32))) + (own_isK xs za (2 : Int32))) + (own_isK xs za (3 : Int32))) + (own_isK xs za (4 : Int32)))), .val (.int (((((own_change xs za (0 : Int32)) + (own_change xs za (1 : Int32))) + (own_change xs za (2 : Int32))) + (own_change xs za (3 : Int32))) + (own_change xs za (4 : Int32))))]) rfl k) ?_
                show own_Gl _ _ _ _ _ _ _ (T29.setTop (mkF m 380 #[.val (.int p1), .val (.int p2), .val (.int ((p2 &&& (2147483647 : Int32)) % (6 : Int32))), .val (.int x3), .val (.int x4), .val (.int x5), .val (.int x6), .val (.int x7), .val (.ref sa), .val (.int (own_sc xs 0 0 0)), .val (.int (((((own_isU xs za (0 : Int32)) + (own_isU xs za (1 : Int32))) + (own_isU xs za (2 : Int32))) + (own_isU xs za (3 : Int32))) + (own_isU xs za (4 : Int32)))), .val (.int (((((own_isK xs za (0 : Int32)) + (own_isK xs za (1 : Int32))) + (own_isK xs za (2 : Int32))) + (own_isK xs za (3 : Int32))) + (own_isK xs za (4 : Int32)))), .val (.int (((((own_change xs za (0 : Int32)) + (own_change xs za (1 : Int32))) + (own_change xs za (2 : Int32))) + (own_change xs za (3 : Int32))) + (own_change xs za (4 : Int32))))] []))
                refine own_st (fun _ k => XS.iload X29.here hx rfl (hb hby at_380) rfl k) ?_
                show own_Gl _ _ _ _ _ _ _ (T29.setTop (mkF m 382 #[.val (.int p1), .val (.int p2), .val (.int ((p2 &&& (2147483647 : Int32)) % (6 : Int32))), .val (.int x3), .val (.int x4), .val (.int x5), .val (.int x6), .val (.int x7), .val (.ref sa), .val (.int (own_sc xs 0 0 0)), .val (.int (((((own_isU xs za (0 : Int32)) + (own_isU xs za (1 : Int32))) + (own_isU xs za (2 : Int32))) + (own_isU xs za (3 : Int32))) + (own_isU xs za (4 : Int32)))), .val (.int (((((own_isK xs za (0 : Int32)) + (own_isK xs za (1 : Int32))) + (own_isK xs za (2 : Int32))) + (own_isK xs za (3 : Int32))) + (own_isK xs za (4 : Int32)))), .val (.int (((((own_change xs za (0 : Int32)) + (own_change xs za (1 : Int32))) + (own_change xs za (2 : Int32))) + (own_change xs za (3 : Int32))) + (own_change xs za (4 : Int32))))] [(.int (own_sc xs 0 0 0))]))
                refine own_st (fun _ k => XS.iload X29.here hx rfl (hb hby at_382) rfl k) ?_
                show own_Gl _ _ _ _ _ _ _ (T29.setTop (mkF m 384 #[.val (.int p1), .val (.int p2), .val (.int ((p2 &&& (2147483647 : Int32)) % (6 : Int32))), .val (.int x3), .val (.int x4), .val (.int x5), .val (.int x6), .val (.int x7), .val (.ref sa), .val (.int (own_sc xs 0 0 0)), .val (.int (((((own_isU xs za (0 : Int32)) + (own_isU xs za (1 : Int32))) + (own_isU xs za (2 : Int32))) + (own_isU xs za (3 : Int32))) + (own_isU xs za (4 : Int32)))), .val (.int (((((own_isK xs za (0 : Int32)) + (own_isK xs za (1 : Int32))) + (own_isK xs za (2 : Int32))) + (own_isK xs za (3 : Int32))) + (own_isK xs za (4 : Int32)))), .val (.int (((((own_change xs za (0 : Int32)) + (own_change xs za (1 : Int32))) + (own_change xs za (2 : Int32))) + (own_change xs za (3 : Int32))) + (own_change xs za (4 : Int32))))] [(.int (((((own_change xs za (0 : Int32)) + (own_change xs za (1 : Int32))) + (own_change xs za (2 : Int32))) + (own_change xs za (3 : Int32))) + (own_change xs za (4 : Int32)))), (.int (own_sc xs 0 0 0))]))
                have hd30 : (own_sc xs 0 0 0) = (((((own_change xs za (0 : Int32)) + (own_change xs za (1 : Int32))) + (own_change xs za (2 : Int32))) + (own_change xs za (3 : Int32))) + (own_change xs za (4 : Int32))) := (by rw [hgood, own_expect, if_neg hc274, if_neg hc299, if_neg hc308, if_neg hc317, if_neg hc326, if_neg hc335] <;> rfl)
                refine own_st (fun _ k => XS.icmpNo X29.here hx rfl (hb hby at_384) rfl (teq hd30).2 k) ?_
                show own_Gl _ _ _ _ _ _ _ (T29.setTop (mkF m 387 #[.val (.int p1), .val (.int p2), .val (.int ((p2 &&& (2147483647 : Int32)) % (6 : Int32))), .val (.int x3), .val (.int x4), .val (.int x5), .val (.int x6), .val (.int x7), .val (.ref sa), .val (.int (own_sc xs 0 0 0)), .val (.int (((((own_isU xs za (0 : Int32)) + (own_isU xs za (1 : Int32))) + (own_isU xs za (2 : Int32))) + (own_isU xs za (3 : Int32))) + (own_isU xs za (4 : Int32)))), .val (.int (((((own_isK xs za (0 : Int32)) + (own_isK xs za (1 : Int32))) + (own_isK xs za (2 : Int32))) + (own_isK xs za (3 : Int32))) + (own_isK xs za (4 : Int32)))), .val (.int (((((own_change xs za (0 : Int32)) + (own_change xs za (1 : Int32))) + (own_change xs za (2 : Int32))) + (own_change xs za (3 : Int32))) + (own_change xs za (4 : Int32))))] []))
                refine own_st (fun _ k => XS.iconst X29.here hx rfl (hb hby at_387) k) ?_
                show own_Gl _ _ _ _ _ _ _ (T29.setTop (mkF m 388 #[.val (.int p1), .val (.int p2), .val (.int ((p2 &&& (2147483647 : Int32)) % (6 : Int32))), .val (.int x3), .val (.int x4), .val (.int x5), .val (.int x6), .val (.int x7), .val (.ref sa), .val (.int (own_sc xs 0 0 0)), .val (.int (((((own_isU xs za (0 : Int32)) + (own_isU xs za (1 : Int32))) + (own_isU xs za (2 : Int32))) + (own_isU xs za (3 : Int32))) + (own_isU xs za (4 : Int32)))), .val (.int (((((own_isK xs za (0 : Int32)) + (own_isK xs za (1 : Int32))) + (own_isK xs za (2 : Int32))) + (own_isK xs za (3 : Int32))) + (own_isK xs za (4 : Int32)))), .val (.int (((((own_change xs za (0 : Int32)) + (own_change xs za (1 : Int32))) + (own_change xs za (2 : Int32))) + (own_change xs za (3 : Int32))) + (own_change xs za (4 : Int32))))] [(.int (1 : Int32))]))
                refine own_st (fun _ k => XS.goto X29.here hx rfl (pc0 := 388) (pc' := 392) rfl (hb hby at_388) (by decide) (by decide) k) ?_
                show own_Gl _ _ _ _ _ _ _ (T29.setTop (mkF m 392 #[.val (.int p1), .val (.int p2), .val (.int ((p2 &&& (2147483647 : Int32)) % (6 : Int32))), .val (.int x3), .val (.int x4), .val (.int x5), .val (.int x6), .val (.int x7), .val (.ref sa), .val (.int (own_sc xs 0 0 0)), .val (.int (((((own_isU xs za (0 : Int32)) + (own_isU xs za (1 : Int32))) + (own_isU xs za (2 : Int32))) + (own_isU xs za (3 : Int32))) + (own_isU xs za (4 : Int32)))), .val (.int (((((own_isK xs za (0 : Int32)) + (own_isK xs za (1 : Int32))) + (own_isK xs za (2 : Int32))) + (own_isK xs za (3 : Int32))) + (own_isK xs za (4 : Int32)))), .val (.int (((((own_change xs za (0 : Int32)) + (own_change xs za (1 : Int32))) + (own_change xs za (2 : Int32))) + (own_change xs za (3 : Int32))) + (own_change xs za (4 : Int32))))] [(.int (1 : Int32))]))
                exact own_retN X29 hx hlk (t := .boolean) hret (by simp) (hb hby at_392) e29 ⟨rfl, N29⟩ (by decide) (by decide)
  refine own_st (fun _ k => XS.iloadN X0.here hx rfl (hb hby at_54) rfl k) ?_
  show own_Gl _ _ _ _ _ _ _ (s₁.setTop (mkF m 55 #[.val (.int p1), .val (.int p2), .val (.int ((p2 &&& (2147483647 : Int32)) % (6 : Int32))), .val (.int x3), .val (.int x4), .val (.int x5), .val (.int x6), .val (.int x7), .unset, .unset, .unset, .unset, .unset] [(.int ((p2 &&& (2147483647 : Int32)) % (6 : Int32)))]))
  by_cases hc55 : ((p2 &&& (2147483647 : Int32)) % (6 : Int32)) = (0 : Int32)
  · refine own_st (fun _ k => XS.ifNo X0.here hx rfl (hb hby at_55) rfl ((if0 _ _).trans (teq hc55).2) k) ?_
    show own_Gl _ _ _ _ _ _ _ (s₁.setTop (mkF m 58 #[.val (.int p1), .val (.int p2), .val (.int ((p2 &&& (2147483647 : Int32)) % (6 : Int32))), .val (.int x3), .val (.int x4), .val (.int x5), .val (.int x6), .val (.int x7), .unset, .unset, .unset, .unset, .unset] []))
    refine own_st (fun _ k => XS.iconst X0.here hx rfl (hb hby at_58) k) ?_
    show own_Gl _ _ _ _ _ _ _ (s₁.setTop (mkF m 59 #[.val (.int p1), .val (.int p2), .val (.int ((p2 &&& (2147483647 : Int32)) % (6 : Int32))), .val (.int x3), .val (.int x4), .val (.int x5), .val (.int x6), .val (.int x7), .unset, .unset, .unset, .unset, .unset] [(.int (0 : Int32))]))
    obtain ⟨T31, h31, k31, X31, e31, E31, A31, st31⟩ := newP X0 hx hZ (hw _ (List.mem_of_getElem? (i := 1) rfl)) e0 (g := (mkF m 59 #[.val (.int p1), .val (.int p2), .val (.int ((p2 &&& (2147483647 : Int32)) % (6 : Int32))), .val (.int x3), .val (.int x4), .val (.int x5), .val (.int x6), .val (.int x7), .unset, .unset, .unset, .unset, .unset] [(.int (0 : Int32))])) rfl (hb hby at_59) rfl (by decide) (cap := 0) (by decide) (by decide) (by decide) (by decide)
    obtain ⟨b31, gb31⟩ : ∃ z, z = h0.size := ⟨_, rfl⟩
    rw [← gb31] at A31 st31
    refine own_st st31 ?_
    have Zs32 : n0 ≤ h31.size := Nat.le_trans Z0 E31.1
    have g_b31 : n0 ≤ b31 := Nat.le_trans Z0 (Nat.le_of_eq gb31.symm)
    have gh_b31 : h0.size ≤ b31 := Nat.le_trans (Keep.refl h0 []).1 (Nat.le_of_eq gb31.symm)
    have V_b31 : Arv Z h31 b31 k31 .int (0 : Int32) [] (.int (0 : Int32)) := Arv.new A31 (by decide)
    show own_Gl _ _ _ _ _ _ _ (T31.setTop (mkF m 61 #[.val (.int p1), .val (.int p2), .val (.int ((p2 &&& (2147483647 : Int32)) % (6 : Int32))), .val (.int x3), .val (.int x4), .val (.int x5), .val (.int x6), .val (.int x7), .unset, .unset, .unset, .unset, .unset] [(.ref b31)]))
    refine own_st (fun _ k => XS.astore X31.here hx rfl (hb hby at_61) rfl rfl (l' := #[.val (.int p1), .val (.int p2), .val (.int ((p2 &&& (2147483647 : Int32)) % (6 : Int32))), .val (.int x3), .val (.int x4), .val (.int x5), .val (.int x6), .val (.int x7), .val (.ref b31), .unset, .unset, .unset, .unset]) rfl k) ?_
    show own_Gl _ _ _ _ _ _ _ (T31.setTop (mkF m 63 #[.val (.int p1), .val (.int p2), .val (.int ((p2 &&& (2147483647 : Int32)) % (6 : Int32))), .val (.int x3), .val (.int x4), .val (.int x5), .val (.int x6), .val (.int x7), .val (.ref b31), .unset, .unset, .unset, .unset] []))
    refine own_st (fun _ k => XS.goto X31.here hx rfl (pc0 := 63) (pc' := 193) rfl (hb hby at_63) (by decide) (by decide) k) ?_
    show own_Gl _ _ _ _ _ _ _ (T31.setTop (mkF m 193 #[.val (.int p1), .val (.int p2), .val (.int ((p2 &&& (2147483647 : Int32)) % (6 : Int32))), .val (.int x3), .val (.int x4), .val (.int x5), .val (.int x6), .val (.int x7), .val (.ref b31), .unset, .unset, .unset, .unset] []))
    have X34 := X31.more (by decide : 1 ≤ 1) (by decide : 0 ≤ 5)
    have K35 : Keep h0 h31 [] := ((Keep.refl h0 []).ext E31)
    show own_Gl _ _ _ _ _ _ _ (T31.setTop (mkF m 193 #[.val (.int p1), .val (.int p2), .val (.int ((p2 &&& (2147483647 : Int32)) % (6 : Int32))), .val (.int x3), .val (.int x4), .val (.int x5), .val (.int x6), .val (.int x7), .val (.ref b31), .unset, .unset, .unset, .unset] []))
    exact J193_1 T31 _ N0 X34 _ e31 (b31) (k31) ((0 : Int32)) ([]) Zs32 K35 V_b31 rfl (own_all0)
  · refine own_st (fun _ k => XS.ifYes X0.here hx rfl (pc0 := 55) (pc' := 66) rfl (hb hby at_55) rfl ((if0 _ _).trans (feq hc55).2) (by decide) (by decide) k) ?_
    show own_Gl _ _ _ _ _ _ _ (s₁.setTop (mkF m 66 #[.val (.int p1), .val (.int p2), .val (.int ((p2 &&& (2147483647 : Int32)) % (6 : Int32))), .val (.int x3), .val (.int x4), .val (.int x5), .val (.int x6), .val (.int x7), .unset, .unset, .unset, .unset, .unset] []))
    refine own_st (fun _ k => XS.iloadN X0.here hx rfl (hb hby at_66) rfl k) ?_
    show own_Gl _ _ _ _ _ _ _ (s₁.setTop (mkF m 67 #[.val (.int p1), .val (.int p2), .val (.int ((p2 &&& (2147483647 : Int32)) % (6 : Int32))), .val (.int x3), .val (.int x4), .val (.int x5), .val (.int x6), .val (.int x7), .unset, .unset, .unset, .unset, .unset] [(.int ((p2 &&& (2147483647 : Int32)) % (6 : Int32)))]))
    refine own_st (fun _ k => XS.iconst X0.here hx rfl (hb hby at_67) k) ?_
    show own_Gl _ _ _ _ _ _ _ (s₁.setTop (mkF m 68 #[.val (.int p1), .val (.int p2), .val (.int ((p2 &&& (2147483647 : Int32)) % (6 : Int32))), .val (.int x3), .val (.int x4), .val (.int x5), .val (.int x6), .val (.int x7), .unset, .unset, .unset, .unset, .unset] [(.int (1 : Int32)), (.int ((p2 &&& (2147483647 : Int32)) % (6 : Int32)))]))
    by_cases hc68 : ((p2 &&& (2147483647 : Int32)) % (6 : Int32)) = (1 : Int32)
    · refine own_st (fun _ k => XS.icmpNo X0.here hx rfl (hb hby at_68) rfl (teq hc68).2 k) ?_
      show own_Gl _ _ _ _ _ _ _ (s₁.setTop (mkF m 71 #[.val (.int p1), .val (.int p2), .val (.int ((p2 &&& (2147483647 : Int32)) % (6 : Int32))), .val (.int x3), .val (.int x4), .val (.int x5), .val (.int x6), .val (.int x7), .unset, .unset, .unset, .unset, .unset] []))
      refine own_st (fun _ k => XS.iconst X0.here hx rfl (hb hby at_71) k) ?_
      show own_Gl _ _ _ _ _ _ _ (s₁.setTop (mkF m 72 #[.val (.int p1), .val (.int p2), .val (.int ((p2 &&& (2147483647 : Int32)) % (6 : Int32))), .val (.int x3), .val (.int x4), .val (.int x5), .val (.int x6), .val (.int x7), .unset, .unset, .unset, .unset, .unset] [(.int (1 : Int32))]))
      obtain ⟨T36, h36, k36, X36, e36, E36, A36, st36⟩ := newP X0 hx hZ (hw _ (List.mem_of_getElem? (i := 1) rfl)) e0 (g := (mkF m 72 #[.val (.int p1), .val (.int p2), .val (.int ((p2 &&& (2147483647 : Int32)) % (6 : Int32))), .val (.int x3), .val (.int x4), .val (.int x5), .val (.int x6), .val (.int x7), .unset, .unset, .unset, .unset, .unset] [(.int (1 : Int32))])) rfl (hb hby at_72) rfl (by decide) (cap := 1) (by decide) (by decide) (by decide) (by decide)
      obtain ⟨b36, gb36⟩ : ∃ z, z = h0.size := ⟨_, rfl⟩
      rw [← gb36] at A36 st36
      refine own_st st36 ?_
      have Zs37 : n0 ≤ h36.size := Nat.le_trans Z0 E36.1
      have g_b36 : n0 ≤ b36 := Nat.le_trans Z0 (Nat.le_of_eq gb36.symm)
      have gh_b36 : h0.size ≤ b36 := Nat.le_trans (Keep.refl h0 []).1 (Nat.le_of_eq gb36.symm)
      have V_b36 : Arv Z h36 b36 k36 .int (1 : Int32) [(.int (0 : Int32))] (.int (0 : Int32)) := (Arv.new A36 (by decide)).pad (pad_rep [] (.int (0 : Int32)) 1)
      show own_Gl _ _ _ _ _ _ _ (T36.setTop (mkF m 74 #[.val (.int p1), .val (.int p2), .val (.int ((p2 &&& (2147483647 : Int32)) % (6 : Int32))), .val (.int x3), .val (.int x4), .val (.int x5), .val (.int x6), .val (.int x7), .unset, .unset, .unset, .unset, .unset] [(.ref b36)]))
      refine own_st (fun _ k => XS.dup X36.here hx rfl (hb hby at_74) rfl rfl k) ?_
      show own_Gl _ _ _ _ _ _ _ (T36.setTop (mkF m 75 #[.val (.int p1), .val (.int p2), .val (.int ((p2 &&& (2147483647 : Int32)) % (6 : Int32))), .val (.int x3), .val (.int x4), .val (.int x5), .val (.int x6), .val (.int x7), .unset, .unset, .unset, .unset, .unset] [(.ref b36), (.ref b36)]))
      refine own_st (fun _ k => XS.iconst X36.here hx rfl (hb hby at_75) k) ?_
      show own_Gl _ _ _ _ _ _ _ (T36.setTop (mkF m 76 #[.val (.int p1), .val (.int p2), .val (.int ((p2 &&& (2147483647 : Int32)) % (6 : Int32))), .val (.int x3), .val (.int x4), .val (.int x5), .val (.int x6), .val (.int x7), .unset, .unset, .unset, .unset, .unset] [(.int (0 : Int32)), (.ref b36), (.ref b36)]))
      refine own_st (fun _ k => XS.iloadN X36.here hx rfl (hb hby at_76) rfl k) ?_
      show own_Gl _ _ _ _ _ _ _ (T36.setTop (mkF m 77 #[.val (.int p1), .val (.int p2), .val (.int ((p2 &&& (2147483647 : Int32)) % (6 : Int32))), .val (.int x3), .val (.int x4), .val (.int x5), .val (.int x6), .val (.int x7), .unset, .unset, .unset, .unset, .unset] [(.int x3), (.int (0 : Int32)), (.ref b36), (.ref b36)]))
      obtain ⟨cl39, Ar39, qq39, Ss39, Nn39, Hh39, Gg39⟩ := id V_b36
      have hin39 : ¬ ((0 : Int32) < 0 ∨ cl39.slots.size ≤ ((0 : Int32)).toNatClampNeg) := inb_of Ss39 ⟨by decide, by decide⟩
      obtain ⟨T39, h39, X39, e39, W39, st39⟩ := stI X36 hx hZ e36 Ar39 (j := (0 : Int32)) hin39 (g := (mkF m 77 #[.val (.int p1), .val (.int p2), .val (.int ((p2 &&& (2147483647 : Int32)) % (6 : Int32))), .val (.int x3), .val (.int x4), .val (.int x5), .val (.int x6), .val (.int x7), .unset, .unset, .unset, .unset, .unset] [(.int x3), (.int (0 : Int32)), (.ref b36), (.ref b36)])) rfl rfl (hb hby at_77)
      have N39 := Fr.snoc X39 N0 g_b36
      refine own_st st39 ?_
      have Zs40 : n0 ≤ h39.size := Nat.le_trans Zs37 (Keep.of_wr W39).1
      have Vw39 : Arv Z h39 b36 k36 .int (1 : Int32) [(.int x3)] (.int (0 : Int32)) := Arv.set Ar39 qq39 Ss39 Nn39 Hh39 Gg39 rfl W39 0 (rfl) (Nat.le_of_ble_eq_true rfl)
      show own_Gl _ _ _ _ _ _ _ (T39.setTop (mkF m 78 #[.val (.int p1), .val (.int p2), .val (.int ((p2 &&& (2147483647 : Int32)) % (6 : Int32))), .val (.int x3), .val (.int x4), .val (.int x5), .val (.int x6), .val (.int x7), .unset, .unset, .unset, .unset, .unset] [(.ref b36)]))
      refine own_st (fun _ k => XS.astore X39.here hx rfl (hb hby at_78) rfl rfl (l' := #[.val (.int p1), .val (.int p2), .val (.int ((p2 &&& (2147483647 : Int32)) % (6 : Int32))), .val (.int x3), .val (.int x4), .val (.int x5), .val (.int x6), .val (.int x7), .val (.ref b36), .unset, .unset, .unset, .unset]) rfl k) ?_
      show own_Gl _ _ _ _ _ _ _ (T39.setTop (mkF m 80 #[.val (.int p1), .val (.int p2), .val (.int ((p2 &&& (2147483647 : Int32)) % (6 : Int32))), .val (.int x3), .val (.int x4), .val (.int x5), .val (.int x6), .val (.int x7), .val (.ref b36), .unset, .unset, .unset, .unset] []))
      refine own_st (fun _ k => XS.goto X39.here hx rfl (pc0 := 80) (pc' := 193) rfl (hb hby at_80) (by decide) (by decide) k) ?_
      show own_Gl _ _ _ _ _ _ _ (T39.setTop (mkF m 193 #[.val (.int p1), .val (.int p2), .val (.int ((p2 &&& (2147483647 : Int32)) % (6 : Int32))), .val (.int x3), .val (.int x4), .val (.int x5), .val (.int x6), .val (.int x7), .val (.ref b36), .unset, .unset, .unset, .unset] []))
      have X41 := X39.more (by decide : 1 ≤ 1) (by decide : 1 ≤ 5)
      have K42 : Keep h0 h39 [] := (((Keep.refl h0 []).ext E36).wr W39 (Or.inr gh_b36))
      show own_Gl _ _ _ _ _ _ _ (T39.setTop (mkF m 193 #[.val (.int p1), .val (.int p2), .val (.int ((p2 &&& (2147483647 : Int32)) % (6 : Int32))), .val (.int x3), .val (.int x4), .val (.int x5), .val (.int x6), .val (.int x7), .val (.ref b36), .unset, .unset, .unset, .unset] []))
      exact J193_1 T39 _ N39 X41 _ e39 (b36) (k36) ((1 : Int32)) ([x3]) Zs40 K42 Vw39 rfl (own_all1 _ hm3)
    · refine own_st (fun _ k => XS.icmpYes X0.here hx rfl (pc0 := 68) (pc' := 83) rfl (hb hby at_68) rfl (feq hc68).2 (by decide) (by decide) k) ?_
      show own_Gl _ _ _ _ _ _ _ (s₁.setTop (mkF m 83 #[.val (.int p1), .val (.int p2), .val (.int ((p2 &&& (2147483647 : Int32)) % (6 : Int32))), .val (.int x3), .val (.int x4), .val (.int x5), .val (.int x6), .val (.int x7), .unset, .unset, .unset, .unset, .unset] []))
      refine own_st (fun _ k => XS.iloadN X0.here hx rfl (hb hby at_83) rfl k) ?_
      show own_Gl _ _ _ _ _ _ _ (s₁.setTop (mkF m 84 #[.val (.int p1), .val (.int p2), .val (.int ((p2 &&& (2147483647 : Int32)) % (6 : Int32))), .val (.int x3), .val (.int x4), .val (.int x5), .val (.int x6), .val (.int x7), .unset, .unset, .unset, .unset, .unset] [(.int ((p2 &&& (2147483647 : Int32)) % (6 : Int32)))]))
      refine own_st (fun _ k => XS.iconst X0.here hx rfl (hb hby at_84) k) ?_
      show own_Gl _ _ _ _ _ _ _ (s₁.setTop (mkF m 85 #[.val (.int p1), .val (.int p2), .val (.int ((p2 &&& (2147483647 : Int32)) % (6 : Int32))), .val (.int x3), .val (.int x4), .val (.int x5), .val (.int x6), .val (.int x7), .unset, .unset, .unset, .unset, .unset] [(.int (2 : Int32)), (.int ((p2 &&& (2147483647 : Int32)) % (6 : Int32)))]))
      by_cases hc85 : ((p2 &&& (2147483647 : Int32)) % (6 : Int32)) = (2 : Int32)
      · refine own_st (fun _ k => XS.icmpNo X0.here hx rfl (hb hby at_85) rfl (teq hc85).2 k) ?_
        show own_Gl _ _ _ _ _ _ _ (s₁.setTop (mkF m 88 #[.val (.int p1), .val (.int p2), .val (.int ((p2 &&& (2147483647 : Int32)) % (6 : Int32))), .val (.int x3), .val (.int x4), .val (.int x5), .val (.int x6), .val (.int x7), .unset, .unset, .unset, .unset, .unset] []))
        refine own_st (fun _ k => XS.iconst X0.here hx rfl (hb hby at_88) k) ?_
        show own_Gl _ _ _ _ _ _ _ (s₁.setTop (mkF m 89 #[.val (.int p1), .val (.int p2), .val (.int ((p2 &&& (2147483647 : Int32)) % (6 : Int32))), .val (.int x3), .val (.int x4), .val (.int x5), .val (.int x6), .val (.int x7), .unset, .unset, .unset, .unset, .unset] [(.int (2 : Int32))]))
        obtain ⟨T43, h43, k43, X43, e43, E43, A43, st43⟩ := newP X0 hx hZ (hw _ (List.mem_of_getElem? (i := 1) rfl)) e0 (g := (mkF m 89 #[.val (.int p1), .val (.int p2), .val (.int ((p2 &&& (2147483647 : Int32)) % (6 : Int32))), .val (.int x3), .val (.int x4), .val (.int x5), .val (.int x6), .val (.int x7), .unset, .unset, .unset, .unset, .unset] [(.int (2 : Int32))])) rfl (hb hby at_89) rfl (by decide) (cap := 2) (by decide) (by decide) (by decide) (by decide)
        obtain ⟨b43, gb43⟩ : ∃ z, z = h0.size := ⟨_, rfl⟩
        rw [← gb43] at A43 st43
        refine own_st st43 ?_
        have Zs44 : n0 ≤ h43.size := Nat.le_trans Z0 E43.1
        have g_b43 : n0 ≤ b43 := Nat.le_trans Z0 (Nat.le_of_eq gb43.symm)
        have gh_b43 : h0.size ≤ b43 := Nat.le_trans (Keep.refl h0 []).1 (Nat.le_of_eq gb43.symm)
        have V_b43 : Arv Z h43 b43 k43 .int (2 : Int32) [(.int (0 : Int32)), (.int (0 : Int32))] (.int (0 : Int32)) := (Arv.new A43 (by decide)).pad (pad_rep [] (.int (0 : Int32)) 2)
        show own_Gl _ _ _ _ _ _ _ (T43.setTop (mkF m 91 #[.val (.int p1), .val (.int p2), .val (.int ((p2 &&& (2147483647 : Int32)) % (6 : Int32))), .val (.int x3), .val (.int x4), .val (.int x5), .val (.int x6), .val (.int x7), .unset, .unset, .unset, .unset, .unset] [(.ref b43)]))
        refine own_st (fun _ k => XS.dup X43.here hx rfl (hb hby at_91) rfl rfl k) ?_
        show own_Gl _ _ _ _ _ _ _ (T43.setTop (mkF m 92 #[.val (.int p1), .val (.int p2), .val (.int ((p2 &&& (2147483647 : Int32)) % (6 : Int32))), .val (.int x3), .val (.int x4), .val (.int x5), .val (.int x6), .val (.int x7), .unset, .unset, .unset, .unset, .unset] [(.ref b43), (.ref b43)]))
        refine own_st (fun _ k => XS.iconst X43.here hx rfl (hb hby at_92) k) ?_
        show own_Gl _ _ _ _ _ _ _ (T43.setTop (mkF m 93 #[.val (.int p1), .val (.int p2), .val (.int ((p2 &&& (2147483647 : Int32)) % (6 : Int32))), .val (.int x3), .val (.int x4), .val (.int x5), .val (.int x6), .val (.int x7), .unset, .unset, .unset, .unset, .unset] [(.int (0 : Int32)), (.ref b43), (.ref b43)]))
        refine own_st (fun _ k => XS.iloadN X43.here hx rfl (hb hby at_93) rfl k) ?_
        show own_Gl _ _ _ _ _ _ _ (T43.setTop (mkF m 94 #[.val (.int p1), .val (.int p2), .val (.int ((p2 &&& (2147483647 : Int32)) % (6 : Int32))), .val (.int x3), .val (.int x4), .val (.int x5), .val (.int x6), .val (.int x7), .unset, .unset, .unset, .unset, .unset] [(.int x3), (.int (0 : Int32)), (.ref b43), (.ref b43)]))
        obtain ⟨cl46, Ar46, qq46, Ss46, Nn46, Hh46, Gg46⟩ := id V_b43
        have hin46 : ¬ ((0 : Int32) < 0 ∨ cl46.slots.size ≤ ((0 : Int32)).toNatClampNeg) := inb_of Ss46 ⟨by decide, by decide⟩
        obtain ⟨T46, h46, X46, e46, W46, st46⟩ := stI X43 hx hZ e43 Ar46 (j := (0 : Int32)) hin46 (g := (mkF m 94 #[.val (.int p1), .val (.int p2), .val (.int ((p2 &&& (2147483647 : Int32)) % (6 : Int32))), .val (.int x3), .val (.int x4), .val (.int x5), .val (.int x6), .val (.int x7), .unset, .unset, .unset, .unset, .unset] [(.int x3), (.int (0 : Int32)), (.ref b43), (.ref b43)])) rfl rfl (hb hby at_94)
        have N46 := Fr.snoc X46 N0 g_b43
        refine own_st st46 ?_
        have Zs47 : n0 ≤ h46.size := Nat.le_trans Zs44 (Keep.of_wr W46).1
        have Vw46 : Arv Z h46 b43 k43 .int (2 : Int32) [(.int x3), (.int (0 : Int32))] (.int (0 : Int32)) := Arv.set Ar46 qq46 Ss46 Nn46 Hh46 Gg46 rfl W46 0 (rfl) (Nat.le_of_ble_eq_true rfl)
        show own_Gl _ _ _ _ _ _ _ (T46.setTop (mkF m 95 #[.val (.int p1), .val (.int p2), .val (.int ((p2 &&& (2147483647 : Int32)) % (6 : Int32))), .val (.int x3), .val (.int x4), .val (.int x5), .val (.int x6), .val (.int x7), .unset, .unset, .unset, .unset, .unset] [(.ref b43)]))
        refine own_st (fun _ k => XS.dup X46.here hx rfl (hb hby at_95) rfl rfl k) ?_
        show own_Gl _ _ _ _ _ _ _ (T46.setTop (mkF m 96 #[.val (.int p1), .val (.int p2), .val (.int ((p2 &&& (2147483647 : Int32)) % (6 : Int32))), .val (.int x3), .val (.int x4), .val (.int x5), .val (.int x6), .val (.int x7), .unset, .unset, .unset, .unset, .unset] [(.ref b43), (.ref b43)]))
        refine own_st (fun _ k => XS.iconst X46.here hx rfl (hb hby at_96) k) ?_
        show own_Gl _ _ _ _ _ _ _ (T46.setTop (mkF m 97 #[.val (.int p1), .val (.int p2), .val (.int ((p2 &&& (2147483647 : Int32)) % (6 : Int32))), .val (.int x3), .val (.int x4), .val (.int x5), .val (.int x6), .val (.int x7), .unset, .unset, .unset, .unset, .unset] [(.int (1 : Int32)), (.ref b43), (.ref b43)]))
        refine own_st (fun _ k => XS.iload X46.here hx rfl (hb hby at_97) rfl k) ?_
        show own_Gl _ _ _ _ _ _ _ (T46.setTop (mkF m 99 #[.val (.int p1), .val (.int p2), .val (.int ((p2 &&& (2147483647 : Int32)) % (6 : Int32))), .val (.int x3), .val (.int x4), .val (.int x5), .val (.int x6), .val (.int x7), .unset, .unset, .unset, .unset, .unset] [(.int x4), (.int (1 : Int32)), (.ref b43), (.ref b43)]))
        obtain ⟨cl48, Ar48, qq48, Ss48, Nn48, Hh48, Gg48⟩ := id Vw46
        have hin48 : ¬ ((1 : Int32) < 0 ∨ cl48.slots.size ≤ ((1 : Int32)).toNatClampNeg) := inb_of Ss48 ⟨by decide, by decide⟩
        obtain ⟨T48, h48, X48, e48, W48, st48⟩ := stI X46 hx hZ e46 Ar48 (j := (1 : Int32)) hin48 (g := (mkF m 99 #[.val (.int p1), .val (.int p2), .val (.int ((p2 &&& (2147483647 : Int32)) % (6 : Int32))), .val (.int x3), .val (.int x4), .val (.int x5), .val (.int x6), .val (.int x7), .unset, .unset, .unset, .unset, .unset] [(.int x4), (.int (1 : Int32)), (.ref b43), (.ref b43)])) rfl rfl (hb hby at_99)
        have N48 := Fr.snoc X48 N46 g_b43
        refine own_st st48 ?_
        have Zs49 : n0 ≤ h48.size := Nat.le_trans Zs47 (Keep.of_wr W48).1
        have Vw48 : Arv Z h48 b43 k43 .int (2 : Int32) [(.int x3), (.int x4)] (.int (0 : Int32)) := Arv.set Ar48 qq48 Ss48 Nn48 Hh48 Gg48 rfl W48 1 (rfl) (Nat.le_of_ble_eq_true rfl)
        show own_Gl _ _ _ _ _ _ _ (T48.setTop (mkF m 100 #[.val (.int p1), .val (.int p2), .val (.int ((p2 &&& (2147483647 : Int32)) % (6 : Int32))), .val (.int x3), .val (.int x4), .val (.int x5), .val (.int x6), .val (.int x7), .unset, .unset, .unset, .unset, .unset] [(.ref b43)]))
        refine own_st (fun _ k => XS.astore X48.here hx rfl (hb hby at_100) rfl rfl (l' := #[.val (.int p1), .val (.int p2), .val (.int ((p2 &&& (2147483647 : Int32)) % (6 : Int32))), .val (.int x3), .val (.int x4), .val (.int x5), .val (.int x6), .val (.int x7), .val (.ref b43), .unset, .unset, .unset, .unset]) rfl k) ?_
        show own_Gl _ _ _ _ _ _ _ (T48.setTop (mkF m 102 #[.val (.int p1), .val (.int p2), .val (.int ((p2 &&& (2147483647 : Int32)) % (6 : Int32))), .val (.int x3), .val (.int x4), .val (.int x5), .val (.int x6), .val (.int x7), .val (.ref b43), .unset, .unset, .unset, .unset] []))
        refine own_st (fun _ k => XS.goto X48.here hx rfl (pc0 := 102) (pc' := 193) rfl (hb hby at_102) (by decide) (by decide) k) ?_
        show own_Gl _ _ _ _ _ _ _ (T48.setTop (mkF m 193 #[.val (.int p1), .val (.int p2), .val (.int ((p2 &&& (2147483647 : Int32)) % (6 : Int32))), .val (.int x3), .val (.int x4), .val (.int x5), .val (.int x6), .val (.int x7), .val (.ref b43), .unset, .unset, .unset, .unset] []))
        have X50 := X48.more (by decide : 1 ≤ 1) (by decide : 2 ≤ 5)
        have K51 : Keep h0 h48 [] := ((((Keep.refl h0 []).ext E43).wr W46 (Or.inr gh_b43)).wr W48 (Or.inr gh_b43))
        show own_Gl _ _ _ _ _ _ _ (T48.setTop (mkF m 193 #[.val (.int p1), .val (.int p2), .val (.int ((p2 &&& (2147483647 : Int32)) % (6 : Int32))), .val (.int x3), .val (.int x4), .val (.int x5), .val (.int x6), .val (.int x7), .val (.ref b43), .unset, .unset, .unset, .unset] []))
        exact J193_1 T48 _ N48 X50 _ e48 (b43) (k43) ((2 : Int32)) ([x3, x4]) Zs49 K51 Vw48 rfl (own_all2 _ hm3 _ hm4)
      · refine own_st (fun _ k => XS.icmpYes X0.here hx rfl (pc0 := 85) (pc' := 105) rfl (hb hby at_85) rfl (feq hc85).2 (by decide) (by decide) k) ?_
        show own_Gl _ _ _ _ _ _ _ (s₁.setTop (mkF m 105 #[.val (.int p1), .val (.int p2), .val (.int ((p2 &&& (2147483647 : Int32)) % (6 : Int32))), .val (.int x3), .val (.int x4), .val (.int x5), .val (.int x6), .val (.int x7), .unset, .unset, .unset, .unset, .unset] []))
        refine own_st (fun _ k => XS.iloadN X0.here hx rfl (hb hby at_105) rfl k) ?_
        show own_Gl _ _ _ _ _ _ _ (s₁.setTop (mkF m 106 #[.val (.int p1), .val (.int p2), .val (.int ((p2 &&& (2147483647 : Int32)) % (6 : Int32))), .val (.int x3), .val (.int x4), .val (.int x5), .val (.int x6), .val (.int x7), .unset, .unset, .unset, .unset, .unset] [(.int ((p2 &&& (2147483647 : Int32)) % (6 : Int32)))]))
        refine own_st (fun _ k => XS.iconst X0.here hx rfl (hb hby at_106) k) ?_
        show own_Gl _ _ _ _ _ _ _ (s₁.setTop (mkF m 107 #[.val (.int p1), .val (.int p2), .val (.int ((p2 &&& (2147483647 : Int32)) % (6 : Int32))), .val (.int x3), .val (.int x4), .val (.int x5), .val (.int x6), .val (.int x7), .unset, .unset, .unset, .unset, .unset] [(.int (3 : Int32)), (.int ((p2 &&& (2147483647 : Int32)) % (6 : Int32)))]))
        by_cases hc107 : ((p2 &&& (2147483647 : Int32)) % (6 : Int32)) = (3 : Int32)
        · refine own_st (fun _ k => XS.icmpNo X0.here hx rfl (hb hby at_107) rfl (teq hc107).2 k) ?_
          show own_Gl _ _ _ _ _ _ _ (s₁.setTop (mkF m 110 #[.val (.int p1), .val (.int p2), .val (.int ((p2 &&& (2147483647 : Int32)) % (6 : Int32))), .val (.int x3), .val (.int x4), .val (.int x5), .val (.int x6), .val (.int x7), .unset, .unset, .unset, .unset, .unset] []))
          refine own_st (fun _ k => XS.iconst X0.here hx rfl (hb hby at_110) k) ?_
          show own_Gl _ _ _ _ _ _ _ (s₁.setTop (mkF m 111 #[.val (.int p1), .val (.int p2), .val (.int ((p2 &&& (2147483647 : Int32)) % (6 : Int32))), .val (.int x3), .val (.int x4), .val (.int x5), .val (.int x6), .val (.int x7), .unset, .unset, .unset, .unset, .unset] [(.int (3 : Int32))]))
          obtain ⟨T52, h52, k52, X52, e52, E52, A52, st52⟩ := newP X0 hx hZ (hw _ (List.mem_of_getElem? (i := 1) rfl)) e0 (g := (mkF m 111 #[.val (.int p1), .val (.int p2), .val (.int ((p2 &&& (2147483647 : Int32)) % (6 : Int32))), .val (.int x3), .val (.int x4), .val (.int x5), .val (.int x6), .val (.int x7), .unset, .unset, .unset, .unset, .unset] [(.int (3 : Int32))])) rfl (hb hby at_111) rfl (by decide) (cap := 3) (by decide) (by decide) (by decide) (by decide)
          obtain ⟨b52, gb52⟩ : ∃ z, z = h0.size := ⟨_, rfl⟩
          rw [← gb52] at A52 st52
          refine own_st st52 ?_
          have Zs53 : n0 ≤ h52.size := Nat.le_trans Z0 E52.1
          have g_b52 : n0 ≤ b52 := Nat.le_trans Z0 (Nat.le_of_eq gb52.symm)
          have gh_b52 : h0.size ≤ b52 := Nat.le_trans (Keep.refl h0 []).1 (Nat.le_of_eq gb52.symm)
          have V_b52 : Arv Z h52 b52 k52 .int (3 : Int32) [(.int (0 : Int32)), (.int (0 : Int32)), (.int (0 : Int32))] (.int (0 : Int32)) := (Arv.new A52 (by decide)).pad (pad_rep [] (.int (0 : Int32)) 3)
          show own_Gl _ _ _ _ _ _ _ (T52.setTop (mkF m 113 #[.val (.int p1), .val (.int p2), .val (.int ((p2 &&& (2147483647 : Int32)) % (6 : Int32))), .val (.int x3), .val (.int x4), .val (.int x5), .val (.int x6), .val (.int x7), .unset, .unset, .unset, .unset, .unset] [(.ref b52)]))
          refine own_st (fun _ k => XS.dup X52.here hx rfl (hb hby at_113) rfl rfl k) ?_
          show own_Gl _ _ _ _ _ _ _ (T52.setTop (mkF m 114 #[.val (.int p1), .val (.int p2), .val (.int ((p2 &&& (2147483647 : Int32)) % (6 : Int32))), .val (.int x3), .val (.int x4), .val (.int x5), .val (.int x6), .val (.int x7), .unset, .unset, .unset, .unset, .unset] [(.ref b52), (.ref b52)]))
          refine own_st (fun _ k => XS.iconst X52.here hx rfl (hb hby at_114) k) ?_
          show own_Gl _ _ _ _ _ _ _ (T52.setTop (mkF m 115 #[.val (.int p1), .val (.int p2), .val (.int ((p2 &&& (2147483647 : Int32)) % (6 : Int32))), .val (.int x3), .val (.int x4), .val (.int x5), .val (.int x6), .val (.int x7), .unset, .unset, .unset, .unset, .unset] [(.int (0 : Int32)), (.ref b52), (.ref b52)]))
          refine own_st (fun _ k => XS.iloadN X52.here hx rfl (hb hby at_115) rfl k) ?_
          show own_Gl _ _ _ _ _ _ _ (T52.setTop (mkF m 116 #[.val (.int p1), .val (.int p2), .val (.int ((p2 &&& (2147483647 : Int32)) % (6 : Int32))), .val (.int x3), .val (.int x4), .val (.int x5), .val (.int x6), .val (.int x7), .unset, .unset, .unset, .unset, .unset] [(.int x3), (.int (0 : Int32)), (.ref b52), (.ref b52)]))
          obtain ⟨cl55, Ar55, qq55, Ss55, Nn55, Hh55, Gg55⟩ := id V_b52
          have hin55 : ¬ ((0 : Int32) < 0 ∨ cl55.slots.size ≤ ((0 : Int32)).toNatClampNeg) := inb_of Ss55 ⟨by decide, by decide⟩
          obtain ⟨T55, h55, X55, e55, W55, st55⟩ := stI X52 hx hZ e52 Ar55 (j := (0 : Int32)) hin55 (g := (mkF m 116 #[.val (.int p1), .val (.int p2), .val (.int ((p2 &&& (2147483647 : Int32)) % (6 : Int32))), .val (.int x3), .val (.int x4), .val (.int x5), .val (.int x6), .val (.int x7), .unset, .unset, .unset, .unset, .unset] [(.int x3), (.int (0 : Int32)), (.ref b52), (.ref b52)])) rfl rfl (hb hby at_116)
          have N55 := Fr.snoc X55 N0 g_b52
          refine own_st st55 ?_
          have Zs56 : n0 ≤ h55.size := Nat.le_trans Zs53 (Keep.of_wr W55).1
          have Vw55 : Arv Z h55 b52 k52 .int (3 : Int32) [(.int x3), (.int (0 : Int32)), (.int (0 : Int32))] (.int (0 : Int32)) := Arv.set Ar55 qq55 Ss55 Nn55 Hh55 Gg55 rfl W55 0 (rfl) (Nat.le_of_ble_eq_true rfl)
          show own_Gl _ _ _ _ _ _ _ (T55.setTop (mkF m 117 #[.val (.int p1), .val (.int p2), .val (.int ((p2 &&& (2147483647 : Int32)) % (6 : Int32))), .val (.int x3), .val (.int x4), .val (.int x5), .val (.int x6), .val (.int x7), .unset, .unset, .unset, .unset, .unset] [(.ref b52)]))
          refine own_st (fun _ k => XS.dup X55.here hx rfl (hb hby at_117) rfl rfl k) ?_
          show own_Gl _ _ _ _ _ _ _ (T55.setTop (mkF m 118 #[.val (.int p1), .val (.int p2), .val (.int ((p2 &&& (2147483647 : Int32)) % (6 : Int32))), .val (.int x3), .val (.int x4), .val (.int x5), .val (.int x6), .val (.int x7), .unset, .unset, .unset, .unset, .unset] [(.ref b52), (.ref b52)]))
          refine own_st (fun _ k => XS.iconst X55.here hx rfl (hb hby at_118) k) ?_
          show own_Gl _ _ _ _ _ _ _ (T55.setTop (mkF m 119 #[.val (.int p1), .val (.int p2), .val (.int ((p2 &&& (2147483647 : Int32)) % (6 : Int32))), .val (.int x3), .val (.int x4), .val (.int x5), .val (.int x6), .val (.int x7), .unset, .unset, .unset, .unset, .unset] [(.int (1 : Int32)), (.ref b52), (.ref b52)]))
          refine own_st (fun _ k => XS.iload X55.here hx rfl (hb hby at_119) rfl k) ?_
          show own_Gl _ _ _ _ _ _ _ (T55.setTop (mkF m 121 #[.val (.int p1), .val (.int p2), .val (.int ((p2 &&& (2147483647 : Int32)) % (6 : Int32))), .val (.int x3), .val (.int x4), .val (.int x5), .val (.int x6), .val (.int x7), .unset, .unset, .unset, .unset, .unset] [(.int x4), (.int (1 : Int32)), (.ref b52), (.ref b52)]))
          obtain ⟨cl57, Ar57, qq57, Ss57, Nn57, Hh57, Gg57⟩ := id Vw55
          have hin57 : ¬ ((1 : Int32) < 0 ∨ cl57.slots.size ≤ ((1 : Int32)).toNatClampNeg) := inb_of Ss57 ⟨by decide, by decide⟩
          obtain ⟨T57, h57, X57, e57, W57, st57⟩ := stI X55 hx hZ e55 Ar57 (j := (1 : Int32)) hin57 (g := (mkF m 121 #[.val (.int p1), .val (.int p2), .val (.int ((p2 &&& (2147483647 : Int32)) % (6 : Int32))), .val (.int x3), .val (.int x4), .val (.int x5), .val (.int x6), .val (.int x7), .unset, .unset, .unset, .unset, .unset] [(.int x4), (.int (1 : Int32)), (.ref b52), (.ref b52)])) rfl rfl (hb hby at_121)
          have N57 := Fr.snoc X57 N55 g_b52
          refine own_st st57 ?_
          have Zs58 : n0 ≤ h57.size := Nat.le_trans Zs56 (Keep.of_wr W57).1
          have Vw57 : Arv Z h57 b52 k52 .int (3 : Int32) [(.int x3), (.int x4), (.int (0 : Int32))] (.int (0 : Int32)) := Arv.set Ar57 qq57 Ss57 Nn57 Hh57 Gg57 rfl W57 1 (rfl) (Nat.le_of_ble_eq_true rfl)
          show own_Gl _ _ _ _ _ _ _ (T57.setTop (mkF m 122 #[.val (.int p1), .val (.int p2), .val (.int ((p2 &&& (2147483647 : Int32)) % (6 : Int32))), .val (.int x3), .val (.int x4), .val (.int x5), .val (.int x6), .val (.int x7), .unset, .unset, .unset, .unset, .unset] [(.ref b52)]))
          refine own_st (fun _ k => XS.dup X57.here hx rfl (hb hby at_122) rfl rfl k) ?_
          show own_Gl _ _ _ _ _ _ _ (T57.setTop (mkF m 123 #[.val (.int p1), .val (.int p2), .val (.int ((p2 &&& (2147483647 : Int32)) % (6 : Int32))), .val (.int x3), .val (.int x4), .val (.int x5), .val (.int x6), .val (.int x7), .unset, .unset, .unset, .unset, .unset] [(.ref b52), (.ref b52)]))
          refine own_st (fun _ k => XS.iconst X57.here hx rfl (hb hby at_123) k) ?_
          show own_Gl _ _ _ _ _ _ _ (T57.setTop (mkF m 124 #[.val (.int p1), .val (.int p2), .val (.int ((p2 &&& (2147483647 : Int32)) % (6 : Int32))), .val (.int x3), .val (.int x4), .val (.int x5), .val (.int x6), .val (.int x7), .unset, .unset, .unset, .unset, .unset] [(.int (2 : Int32)), (.ref b52), (.ref b52)]))
          refine own_st (fun _ k => XS.iload X57.here hx rfl (hb hby at_124) rfl k) ?_
          show own_Gl _ _ _ _ _ _ _ (T57.setTop (mkF m 126 #[.val (.int p1), .val (.int p2), .val (.int ((p2 &&& (2147483647 : Int32)) % (6 : Int32))), .val (.int x3), .val (.int x4), .val (.int x5), .val (.int x6), .val (.int x7), .unset, .unset, .unset, .unset, .unset] [(.int x5), (.int (2 : Int32)), (.ref b52), (.ref b52)]))
          obtain ⟨cl59, Ar59, qq59, Ss59, Nn59, Hh59, Gg59⟩ := id Vw57
          have hin59 : ¬ ((2 : Int32) < 0 ∨ cl59.slots.size ≤ ((2 : Int32)).toNatClampNeg) := inb_of Ss59 ⟨by decide, by decide⟩
          obtain ⟨T59, h59, X59, e59, W59, st59⟩ := stI X57 hx hZ e57 Ar59 (j := (2 : Int32)) hin59 (g := (mkF m 126 #[.val (.int p1), .val (.int p2), .val (.int ((p2 &&& (2147483647 : Int32)) % (6 : Int32))), .val (.int x3), .val (.int x4), .val (.int x5), .val (.int x6), .val (.int x7), .unset, .unset, .unset, .unset, .unset] [(.int x5), (.int (2 : Int32)), (.ref b52), (.ref b52)])) rfl rfl (hb hby at_126)
          have N59 := Fr.snoc X59 N57 g_b52
          refine own_st st59 ?_
          have Zs60 : n0 ≤ h59.size := Nat.le_trans Zs58 (Keep.of_wr W59).1
          have Vw59 : Arv Z h59 b52 k52 .int (3 : Int32) [(.int x3), (.int x4), (.int x5)] (.int (0 : Int32)) := Arv.set Ar59 qq59 Ss59 Nn59 Hh59 Gg59 rfl W59 2 (rfl) (Nat.le_of_ble_eq_true rfl)
          show own_Gl _ _ _ _ _ _ _ (T59.setTop (mkF m 127 #[.val (.int p1), .val (.int p2), .val (.int ((p2 &&& (2147483647 : Int32)) % (6 : Int32))), .val (.int x3), .val (.int x4), .val (.int x5), .val (.int x6), .val (.int x7), .unset, .unset, .unset, .unset, .unset] [(.ref b52)]))
          refine own_st (fun _ k => XS.astore X59.here hx rfl (hb hby at_127) rfl rfl (l' := #[.val (.int p1), .val (.int p2), .val (.int ((p2 &&& (2147483647 : Int32)) % (6 : Int32))), .val (.int x3), .val (.int x4), .val (.int x5), .val (.int x6), .val (.int x7), .val (.ref b52), .unset, .unset, .unset, .unset]) rfl k) ?_
          show own_Gl _ _ _ _ _ _ _ (T59.setTop (mkF m 129 #[.val (.int p1), .val (.int p2), .val (.int ((p2 &&& (2147483647 : Int32)) % (6 : Int32))), .val (.int x3), .val (.int x4), .val (.int x5), .val (.int x6), .val (.int x7), .val (.ref b52), .unset, .unset, .unset, .unset] []))
          refine own_st (fun _ k => XS.goto X59.here hx rfl (pc0 := 129) (pc' := 193) rfl (hb hby at_129) (by decide) (by decide) k) ?_
          show own_Gl _ _ _ _ _ _ _ (T59.setTop (mkF m 193 #[.val (.int p1), .val (.int p2), .val (.int ((p2 &&& (2147483647 : Int32)) % (6 : Int32))), .val (.int x3), .val (.int x4), .val (.int x5), .val (.int x6), .val (.int x7), .val (.ref b52), .unset, .unset, .unset, .unset] []))
          have X61 := X59.more (by decide : 1 ≤ 1) (by decide : 3 ≤ 5)
          have K62 : Keep h0 h59 [] := (((((Keep.refl h0 []).ext E52).wr W55 (Or.inr gh_b52)).wr W57 (Or.inr gh_b52)).wr W59 (Or.inr gh_b52))
          show own_Gl _ _ _ _ _ _ _ (T59.setTop (mkF m 193 #[.val (.int p1), .val (.int p2), .val (.int ((p2 &&& (2147483647 : Int32)) % (6 : Int32))), .val (.int x3), .val (.int x4), .val (.int x5), .val (.int x6), .val (.int x7), .val (.ref b52), .unset, .unset, .unset, .unset] []))
          exact J193_1 T59 _ N59 X61 _ e59 (b52) (k52) ((3 : Int32)) ([x3, x4, x5]) Zs60 K62 Vw59 rfl (own_all3 _ hm3 _ hm4 _ hm5)
        · refine own_st (fun _ k => XS.icmpYes X0.here hx rfl (pc0 := 107) (pc' := 132) rfl (hb hby at_107) rfl (feq hc107).2 (by decide) (by decide) k) ?_
          show own_Gl _ _ _ _ _ _ _ (s₁.setTop (mkF m 132 #[.val (.int p1), .val (.int p2), .val (.int ((p2 &&& (2147483647 : Int32)) % (6 : Int32))), .val (.int x3), .val (.int x4), .val (.int x5), .val (.int x6), .val (.int x7), .unset, .unset, .unset, .unset, .unset] []))
          refine own_st (fun _ k => XS.iloadN X0.here hx rfl (hb hby at_132) rfl k) ?_
          show own_Gl _ _ _ _ _ _ _ (s₁.setTop (mkF m 133 #[.val (.int p1), .val (.int p2), .val (.int ((p2 &&& (2147483647 : Int32)) % (6 : Int32))), .val (.int x3), .val (.int x4), .val (.int x5), .val (.int x6), .val (.int x7), .unset, .unset, .unset, .unset, .unset] [(.int ((p2 &&& (2147483647 : Int32)) % (6 : Int32)))]))
          refine own_st (fun _ k => XS.iconst X0.here hx rfl (hb hby at_133) k) ?_
          show own_Gl _ _ _ _ _ _ _ (s₁.setTop (mkF m 134 #[.val (.int p1), .val (.int p2), .val (.int ((p2 &&& (2147483647 : Int32)) % (6 : Int32))), .val (.int x3), .val (.int x4), .val (.int x5), .val (.int x6), .val (.int x7), .unset, .unset, .unset, .unset, .unset] [(.int (4 : Int32)), (.int ((p2 &&& (2147483647 : Int32)) % (6 : Int32)))]))
          by_cases hc134 : ((p2 &&& (2147483647 : Int32)) % (6 : Int32)) = (4 : Int32)
          · refine own_st (fun _ k => XS.icmpNo X0.here hx rfl (hb hby at_134) rfl (teq hc134).2 k) ?_
            show own_Gl _ _ _ _ _ _ _ (s₁.setTop (mkF m 137 #[.val (.int p1), .val (.int p2), .val (.int ((p2 &&& (2147483647 : Int32)) % (6 : Int32))), .val (.int x3), .val (.int x4), .val (.int x5), .val (.int x6), .val (.int x7), .unset, .unset, .unset, .unset, .unset] []))
            refine own_st (fun _ k => XS.iconst X0.here hx rfl (hb hby at_137) k) ?_
            show own_Gl _ _ _ _ _ _ _ (s₁.setTop (mkF m 138 #[.val (.int p1), .val (.int p2), .val (.int ((p2 &&& (2147483647 : Int32)) % (6 : Int32))), .val (.int x3), .val (.int x4), .val (.int x5), .val (.int x6), .val (.int x7), .unset, .unset, .unset, .unset, .unset] [(.int (4 : Int32))]))
            obtain ⟨T63, h63, k63, X63, e63, E63, A63, st63⟩ := newP X0 hx hZ (hw _ (List.mem_of_getElem? (i := 1) rfl)) e0 (g := (mkF m 138 #[.val (.int p1), .val (.int p2), .val (.int ((p2 &&& (2147483647 : Int32)) % (6 : Int32))), .val (.int x3), .val (.int x4), .val (.int x5), .val (.int x6), .val (.int x7), .unset, .unset, .unset, .unset, .unset] [(.int (4 : Int32))])) rfl (hb hby at_138) rfl (by decide) (cap := 4) (by decide) (by decide) (by decide) (by decide)
            obtain ⟨b63, gb63⟩ : ∃ z, z = h0.size := ⟨_, rfl⟩
            rw [← gb63] at A63 st63
            refine own_st st63 ?_
            have Zs64 : n0 ≤ h63.size := Nat.le_trans Z0 E63.1
            have g_b63 : n0 ≤ b63 := Nat.le_trans Z0 (Nat.le_of_eq gb63.symm)
            have gh_b63 : h0.size ≤ b63 := Nat.le_trans (Keep.refl h0 []).1 (Nat.le_of_eq gb63.symm)
            have V_b63 : Arv Z h63 b63 k63 .int (4 : Int32) [(.int (0 : Int32)), (.int (0 : Int32)), (.int (0 : Int32)), (.int (0 : Int32))] (.int (0 : Int32)) := (Arv.new A63 (by decide)).pad (pad_rep [] (.int (0 : Int32)) 4)
            show own_Gl _ _ _ _ _ _ _ (T63.setTop (mkF m 140 #[.val (.int p1), .val (.int p2), .val (.int ((p2 &&& (2147483647 : Int32)) % (6 : Int32))), .val (.int x3), .val (.int x4), .val (.int x5), .val (.int x6), .val (.int x7), .unset, .unset, .unset, .unset, .unset] [(.ref b63)]))
            refine own_st (fun _ k => XS.dup X63.here hx rfl (hb hby at_140) rfl rfl k) ?_
            show own_Gl _ _ _ _ _ _ _ (T63.setTop (mkF m 141 #[.val (.int p1), .val (.int p2), .val (.int ((p2 &&& (2147483647 : Int32)) % (6 : Int32))), .val (.int x3), .val (.int x4), .val (.int x5), .val (.int x6), .val (.int x7), .unset, .unset, .unset, .unset, .unset] [(.ref b63), (.ref b63)]))
            refine own_st (fun _ k => XS.iconst X63.here hx rfl (hb hby at_141) k) ?_
            show own_Gl _ _ _ _ _ _ _ (T63.setTop (mkF m 142 #[.val (.int p1), .val (.int p2), .val (.int ((p2 &&& (2147483647 : Int32)) % (6 : Int32))), .val (.int x3), .val (.int x4), .val (.int x5), .val (.int x6), .val (.int x7), .unset, .unset, .unset, .unset, .unset] [(.int (0 : Int32)), (.ref b63), (.ref b63)]))
            refine own_st (fun _ k => XS.iloadN X63.here hx rfl (hb hby at_142) rfl k) ?_
            show own_Gl _ _ _ _ _ _ _ (T63.setTop (mkF m 143 #[.val (.int p1), .val (.int p2), .val (.int ((p2 &&& (2147483647 : Int32)) % (6 : Int32))), .val (.int x3), .val (.int x4), .val (.int x5), .val (.int x6), .val (.int x7), .unset, .unset, .unset, .unset, .unset] [(.int x3), (.int (0 : Int32)), (.ref b63), (.ref b63)]))
            obtain ⟨cl66, Ar66, qq66, Ss66, Nn66, Hh66, Gg66⟩ := id V_b63
            have hin66 : ¬ ((0 : Int32) < 0 ∨ cl66.slots.size ≤ ((0 : Int32)).toNatClampNeg) := inb_of Ss66 ⟨by decide, by decide⟩
            obtain ⟨T66, h66, X66, e66, W66, st66⟩ := stI X63 hx hZ e63 Ar66 (j := (0 : Int32)) hin66 (g := (mkF m 143 #[.val (.int p1), .val (.int p2), .val (.int ((p2 &&& (2147483647 : Int32)) % (6 : Int32))), .val (.int x3), .val (.int x4), .val (.int x5), .val (.int x6), .val (.int x7), .unset, .unset, .unset, .unset, .unset] [(.int x3), (.int (0 : Int32)), (.ref b63), (.ref b63)])) rfl rfl (hb hby at_143)
            have N66 := Fr.snoc X66 N0 g_b63
            refine own_st st66 ?_
            have Zs67 : n0 ≤ h66.size := Nat.le_trans Zs64 (Keep.of_wr W66).1
            have Vw66 : Arv Z h66 b63 k63 .int (4 : Int32) [(.int x3), (.int (0 : Int32)), (.int (0 : Int32)), (.int (0 : Int32))] (.int (0 : Int32)) := Arv.set Ar66 qq66 Ss66 Nn66 Hh66 Gg66 rfl W66 0 (rfl) (Nat.le_of_ble_eq_true rfl)
            show own_Gl _ _ _ _ _ _ _ (T66.setTop (mkF m 144 #[.val (.int p1), .val (.int p2), .val (.int ((p2 &&& (2147483647 : Int32)) % (6 : Int32))), .val (.int x3), .val (.int x4), .val (.int x5), .val (.int x6), .val (.int x7), .unset, .unset, .unset, .unset, .unset] [(.ref b63)]))
            refine own_st (fun _ k => XS.dup X66.here hx rfl (hb hby at_144) rfl rfl k) ?_
            show own_Gl _ _ _ _ _ _ _ (T66.setTop (mkF m 145 #[.val (.int p1), .val (.int p2), .val (.int ((p2 &&& (2147483647 : Int32)) % (6 : Int32))), .val (.int x3), .val (.int x4), .val (.int x5), .val (.int x6), .val (.int x7), .unset, .unset, .unset, .unset, .unset] [(.ref b63), (.ref b63)]))
            refine own_st (fun _ k => XS.iconst X66.here hx rfl (hb hby at_145) k) ?_
            show own_Gl _ _ _ _ _ _ _ (T66.setTop (mkF m 146 #[.val (.int p1), .val (.int p2), .val (.int ((p2 &&& (2147483647 : Int32)) % (6 : Int32))), .val (.int x3), .val (.int x4), .val (.int x5), .val (.int x6), .val (.int x7), .unset, .unset, .unset, .unset, .unset] [(.int (1 : Int32)), (.ref b63), (.ref b63)]))
            refine own_st (fun _ k => XS.iload X66.here hx rfl (hb hby at_146) rfl k) ?_
            show own_Gl _ _ _ _ _ _ _ (T66.setTop (mkF m 148 #[.val (.int p1), .val (.int p2), .val (.int ((p2 &&& (2147483647 : Int32)) % (6 : Int32))), .val (.int x3), .val (.int x4), .val (.int x5), .val (.int x6), .val (.int x7), .unset, .unset, .unset, .unset, .unset] [(.int x4), (.int (1 : Int32)), (.ref b63), (.ref b63)]))
            obtain ⟨cl68, Ar68, qq68, Ss68, Nn68, Hh68, Gg68⟩ := id Vw66
            have hin68 : ¬ ((1 : Int32) < 0 ∨ cl68.slots.size ≤ ((1 : Int32)).toNatClampNeg) := inb_of Ss68 ⟨by decide, by decide⟩
            obtain ⟨T68, h68, X68, e68, W68, st68⟩ := stI X66 hx hZ e66 Ar68 (j := (1 : Int32)) hin68 (g := (mkF m 148 #[.val (.int p1), .val (.int p2), .val (.int ((p2 &&& (2147483647 : Int32)) % (6 : Int32))), .val (.int x3), .val (.int x4), .val (.int x5), .val (.int x6), .val (.int x7), .unset, .unset, .unset, .unset, .unset] [(.int x4), (.int (1 : Int32)), (.ref b63), (.ref b63)])) rfl rfl (hb hby at_148)
            have N68 := Fr.snoc X68 N66 g_b63
            refine own_st st68 ?_
            have Zs69 : n0 ≤ h68.size := Nat.le_trans Zs67 (Keep.of_wr W68).1
            have Vw68 : Arv Z h68 b63 k63 .int (4 : Int32) [(.int x3), (.int x4), (.int (0 : Int32)), (.int (0 : Int32))] (.int (0 : Int32)) := Arv.set Ar68 qq68 Ss68 Nn68 Hh68 Gg68 rfl W68 1 (rfl) (Nat.le_of_ble_eq_true rfl)
            show own_Gl _ _ _ _ _ _ _ (T68.setTop (mkF m 149 #[.val (.int p1), .val (.int p2), .val (.int ((p2 &&& (2147483647 : Int32)) % (6 : Int32))), .val (.int x3), .val (.int x4), .val (.int x5), .val (.int x6), .val (.int x7), .unset, .unset, .unset, .unset, .unset] [(.ref b63)]))
            refine own_st (fun _ k => XS.dup X68.here hx rfl (hb hby at_149) rfl rfl k) ?_
            show own_Gl _ _ _ _ _ _ _ (T68.setTop (mkF m 150 #[.val (.int p1), .val (.int p2), .val (.int ((p2 &&& (2147483647 : Int32)) % (6 : Int32))), .val (.int x3), .val (.int x4), .val (.int x5), .val (.int x6), .val (.int x7), .unset, .unset, .unset, .unset, .unset] [(.ref b63), (.ref b63)]))
            refine own_st (fun _ k => XS.iconst X68.here hx rfl (hb hby at_150) k) ?_
            show own_Gl _ _ _ _ _ _ _ (T68.setTop (mkF m 151 #[.val (.int p1), .val (.int p2), .val (.int ((p2 &&& (2147483647 : Int32)) % (6 : Int32))), .val (.int x3), .val (.int x4), .val (.int x5), .val (.int x6), .val (.int x7), .unset, .unset, .unset, .unset, .unset] [(.int (2 : Int32)), (.ref b63), (.ref b63)]))
            refine own_st (fun _ k => XS.iload X68.here hx rfl (hb hby at_151) rfl k) ?_
            show own_Gl _ _ _ _ _ _ _ (T68.setTop (mkF m 153 #[.val (.int p1), .val (.int p2), .val (.int ((p2 &&& (2147483647 : Int32)) % (6 : Int32))), .val (.int x3), .val (.int x4), .val (.int x5), .val (.int x6), .val (.int x7), .unset, .unset, .unset, .unset, .unset] [(.int x5), (.int (2 : Int32)), (.ref b63), (.ref b63)]))
            obtain ⟨cl70, Ar70, qq70, Ss70, Nn70, Hh70, Gg70⟩ := id Vw68
            have hin70 : ¬ ((2 : Int32) < 0 ∨ cl70.slots.size ≤ ((2 : Int32)).toNatClampNeg) := inb_of Ss70 ⟨by decide, by decide⟩
            obtain ⟨T70, h70, X70, e70, W70, st70⟩ := stI X68 hx hZ e68 Ar70 (j := (2 : Int32)) hin70 (g := (mkF m 153 #[.val (.int p1), .val (.int p2), .val (.int ((p2 &&& (2147483647 : Int32)) % (6 : Int32))), .val (.int x3), .val (.int x4), .val (.int x5), .val (.int x6), .val (.int x7), .unset, .unset, .unset, .unset, .unset] [(.int x5), (.int (2 : Int32)), (.ref b63), (.ref b63)])) rfl rfl (hb hby at_153)
            have N70 := Fr.snoc X70 N68 g_b63
            refine own_st st70 ?_
            have Zs71 : n0 ≤ h70.size := Nat.le_trans Zs69 (Keep.of_wr W70).1
            have Vw70 : Arv Z h70 b63 k63 .int (4 : Int32) [(.int x3), (.int x4), (.int x5), (.int (0 : Int32))] (.int (0 : Int32)) := Arv.set Ar70 qq70 Ss70 Nn70 Hh70 Gg70 rfl W70 2 (rfl) (Nat.le_of_ble_eq_true rfl)
            show own_Gl _ _ _ _ _ _ _ (T70.setTop (mkF m 154 #[.val (.int p1), .val (.int p2), .val (.int ((p2 &&& (2147483647 : Int32)) % (6 : Int32))), .val (.int x3), .val (.int x4), .val (.int x5), .val (.int x6), .val (.int x7), .unset, .unset, .unset, .unset, .unset] [(.ref b63)]))
            refine own_st (fun _ k => XS.dup X70.here hx rfl (hb hby at_154) rfl rfl k) ?_
            show own_Gl _ _ _ _ _ _ _ (T70.setTop (mkF m 155 #[.val (.int p1), .val (.int p2), .val (.int ((p2 &&& (2147483647 : Int32)) % (6 : Int32))), .val (.int x3), .val (.int x4), .val (.int x5), .val (.int x6), .val (.int x7), .unset, .unset, .unset, .unset, .unset] [(.ref b63), (.ref b63)]))
            refine own_st (fun _ k => XS.iconst X70.here hx rfl (hb hby at_155) k) ?_
            show own_Gl _ _ _ _ _ _ _ (T70.setTop (mkF m 156 #[.val (.int p1), .val (.int p2), .val (.int ((p2 &&& (2147483647 : Int32)) % (6 : Int32))), .val (.int x3), .val (.int x4), .val (.int x5), .val (.int x6), .val (.int x7), .unset, .unset, .unset, .unset, .unset] [(.int (3 : Int32)), (.ref b63), (.ref b63)]))
            refine own_st (fun _ k => XS.iload X70.here hx rfl (hb hby at_156) rfl k) ?_
            show own_Gl _ _ _ _ _ _ _ (T70.setTop (mkF m 158 #[.val (.int p1), .val (.int p2), .val (.int ((p2 &&& (2147483647 : Int32)) % (6 : Int32))), .val (.int x3), .val (.int x4), .val (.int x5), .val (.int x6), .val (.int x7), .unset, .unset, .unset, .unset, .unset] [(.int x6), (.int (3 : Int32)), (.ref b63), (.ref b63)]))
            obtain ⟨cl72, Ar72, qq72, Ss72, Nn72, Hh72, Gg72⟩ := id Vw70
            have hin72 : ¬ ((3 : Int32) < 0 ∨ cl72.slots.size ≤ ((3 : Int32)).toNatClampNeg) := inb_of Ss72 ⟨by decide, by decide⟩
            obtain ⟨T72, h72, X72, e72, W72, st72⟩ := stI X70 hx hZ e70 Ar72 (j := (3 : Int32)) hin72 (g := (mkF m 158 #[.val (.int p1), .val (.int p2), .val (.int ((p2 &&& (2147483647 : Int32)) % (6 : Int32))), .val (.int x3), .val (.int x4), .val (.int x5), .val (.int x6), .val (.int x7), .unset, .unset, .unset, .unset, .unset] [(.int x6), (.int (3 : Int32)), (.ref b63), (.ref b63)])) rfl rfl (hb hby at_158)
            have N72 := Fr.snoc X72 N70 g_b63
            refine own_st st72 ?_
            have Zs73 : n0 ≤ h72.size := Nat.le_trans Zs71 (Keep.of_wr W72).1
            have Vw72 : Arv Z h72 b63 k63 .int (4 : Int32) [(.int x3), (.int x4), (.int x5), (.int x6)] (.int (0 : Int32)) := Arv.set Ar72 qq72 Ss72 Nn72 Hh72 Gg72 rfl W72 3 (rfl) (Nat.le_of_ble_eq_true rfl)
            show own_Gl _ _ _ _ _ _ _ (T72.setTop (mkF m 159 #[.val (.int p1), .val (.int p2), .val (.int ((p2 &&& (2147483647 : Int32)) % (6 : Int32))), .val (.int x3), .val (.int x4), .val (.int x5), .val (.int x6), .val (.int x7), .unset, .unset, .unset, .unset, .unset] [(.ref b63)]))
            refine own_st (fun _ k => XS.astore X72.here hx rfl (hb hby at_159) rfl rfl (l' := #[.val (.int p1), .val (.int p2), .val (.int ((p2 &&& (2147483647 : Int32)) % (6 : Int32))), .val (.int x3), .val (.int x4), .val (.int x5), .val (.int x6), .val (.int x7), .val (.ref b63), .unset, .unset, .unset, .unset]) rfl k) ?_
            show own_Gl _ _ _ _ _ _ _ (T72.setTop (mkF m 161 #[.val (.int p1), .val (.int p2), .val (.int ((p2 &&& (2147483647 : Int32)) % (6 : Int32))), .val (.int x3), .val (.int x4), .val (.int x5), .val (.int x6), .val (.int x7), .val (.ref b63), .unset, .unset, .unset, .unset] []))
            refine own_st (fun _ k => XS.goto X72.here hx rfl (pc0 := 161) (pc' := 193) rfl (hb hby at_161) (by decide) (by decide) k) ?_
            show own_Gl _ _ _ _ _ _ _ (T72.setTop (mkF m 193 #[.val (.int p1), .val (.int p2), .val (.int ((p2 &&& (2147483647 : Int32)) % (6 : Int32))), .val (.int x3), .val (.int x4), .val (.int x5), .val (.int x6), .val (.int x7), .val (.ref b63), .unset, .unset, .unset, .unset] []))
            have X74 := X72.more (by decide : 1 ≤ 1) (by decide : 4 ≤ 5)
            have K75 : Keep h0 h72 [] := ((((((Keep.refl h0 []).ext E63).wr W66 (Or.inr gh_b63)).wr W68 (Or.inr gh_b63)).wr W70 (Or.inr gh_b63)).wr W72 (Or.inr gh_b63))
            show own_Gl _ _ _ _ _ _ _ (T72.setTop (mkF m 193 #[.val (.int p1), .val (.int p2), .val (.int ((p2 &&& (2147483647 : Int32)) % (6 : Int32))), .val (.int x3), .val (.int x4), .val (.int x5), .val (.int x6), .val (.int x7), .val (.ref b63), .unset, .unset, .unset, .unset] []))
            exact J193_1 T72 _ N72 X74 _ e72 (b63) (k63) ((4 : Int32)) ([x3, x4, x5, x6]) Zs73 K75 Vw72 rfl (own_all4 _ hm3 _ hm4 _ hm5 _ hm6)
          · refine own_st (fun _ k => XS.icmpYes X0.here hx rfl (pc0 := 134) (pc' := 164) rfl (hb hby at_134) rfl (feq hc134).2 (by decide) (by decide) k) ?_
            show own_Gl _ _ _ _ _ _ _ (s₁.setTop (mkF m 164 #[.val (.int p1), .val (.int p2), .val (.int ((p2 &&& (2147483647 : Int32)) % (6 : Int32))), .val (.int x3), .val (.int x4), .val (.int x5), .val (.int x6), .val (.int x7), .unset, .unset, .unset, .unset, .unset] []))
            refine own_st (fun _ k => XS.iconst X0.here hx rfl (hb hby at_164) k) ?_
            show own_Gl _ _ _ _ _ _ _ (s₁.setTop (mkF m 165 #[.val (.int p1), .val (.int p2), .val (.int ((p2 &&& (2147483647 : Int32)) % (6 : Int32))), .val (.int x3), .val (.int x4), .val (.int x5), .val (.int x6), .val (.int x7), .unset, .unset, .unset, .unset, .unset] [(.int (5 : Int32))]))
            obtain ⟨T76, h76, k76, X76, e76, E76, A76, st76⟩ := newP X0 hx hZ (hw _ (List.mem_of_getElem? (i := 1) rfl)) e0 (g := (mkF m 165 #[.val (.int p1), .val (.int p2), .val (.int ((p2 &&& (2147483647 : Int32)) % (6 : Int32))), .val (.int x3), .val (.int x4), .val (.int x5), .val (.int x6), .val (.int x7), .unset, .unset, .unset, .unset, .unset] [(.int (5 : Int32))])) rfl (hb hby at_165) rfl (by decide) (cap := 5) (by decide) (by decide) (by decide) (by decide)
            obtain ⟨b76, gb76⟩ : ∃ z, z = h0.size := ⟨_, rfl⟩
            rw [← gb76] at A76 st76
            refine own_st st76 ?_
            have Zs77 : n0 ≤ h76.size := Nat.le_trans Z0 E76.1
            have g_b76 : n0 ≤ b76 := Nat.le_trans Z0 (Nat.le_of_eq gb76.symm)
            have gh_b76 : h0.size ≤ b76 := Nat.le_trans (Keep.refl h0 []).1 (Nat.le_of_eq gb76.symm)
            have V_b76 : Arv Z h76 b76 k76 .int (5 : Int32) [(.int (0 : Int32)), (.int (0 : Int32)), (.int (0 : Int32)), (.int (0 : Int32)), (.int (0 : Int32))] (.int (0 : Int32)) := (Arv.new A76 (by decide)).pad (pad_rep [] (.int (0 : Int32)) 5)
            show own_Gl _ _ _ _ _ _ _ (T76.setTop (mkF m 167 #[.val (.int p1), .val (.int p2), .val (.int ((p2 &&& (2147483647 : Int32)) % (6 : Int32))), .val (.int x3), .val (.int x4), .val (.int x5), .val (.int x6), .val (.int x7), .unset, .unset, .unset, .unset, .unset] [(.ref b76)]))
            refine own_st (fun _ k => XS.dup X76.here hx rfl (hb hby at_167) rfl rfl k) ?_
            show own_Gl _ _ _ _ _ _ _ (T76.setTop (mkF m 168 #[.val (.int p1), .val (.int p2), .val (.int ((p2 &&& (2147483647 : Int32)) % (6 : Int32))), .val (.int x3), .val (.int x4), .val (.int x5), .val (.int x6), .val (.int x7), .unset, .unset, .unset, .unset, .unset] [(.ref b76), (.ref b76)]))
            refine own_st (fun _ k => XS.iconst X76.here hx rfl (hb hby at_168) k) ?_
            show own_Gl _ _ _ _ _ _ _ (T76.setTop (mkF m 169 #[.val (.int p1), .val (.int p2), .val (.int ((p2 &&& (2147483647 : Int32)) % (6 : Int32))), .val (.int x3), .val (.int x4), .val (.int x5), .val (.int x6), .val (.int x7), .unset, .unset, .unset, .unset, .unset] [(.int (0 : Int32)), (.ref b76), (.ref b76)]))
            refine own_st (fun _ k => XS.iloadN X76.here hx rfl (hb hby at_169) rfl k) ?_
            show own_Gl _ _ _ _ _ _ _ (T76.setTop (mkF m 170 #[.val (.int p1), .val (.int p2), .val (.int ((p2 &&& (2147483647 : Int32)) % (6 : Int32))), .val (.int x3), .val (.int x4), .val (.int x5), .val (.int x6), .val (.int x7), .unset, .unset, .unset, .unset, .unset] [(.int x3), (.int (0 : Int32)), (.ref b76), (.ref b76)]))
            obtain ⟨cl79, Ar79, qq79, Ss79, Nn79, Hh79, Gg79⟩ := id V_b76
            have hin79 : ¬ ((0 : Int32) < 0 ∨ cl79.slots.size ≤ ((0 : Int32)).toNatClampNeg) := inb_of Ss79 ⟨by decide, by decide⟩
            obtain ⟨T79, h79, X79, e79, W79, st79⟩ := stI X76 hx hZ e76 Ar79 (j := (0 : Int32)) hin79 (g := (mkF m 170 #[.val (.int p1), .val (.int p2), .val (.int ((p2 &&& (2147483647 : Int32)) % (6 : Int32))), .val (.int x3), .val (.int x4), .val (.int x5), .val (.int x6), .val (.int x7), .unset, .unset, .unset, .unset, .unset] [(.int x3), (.int (0 : Int32)), (.ref b76), (.ref b76)])) rfl rfl (hb hby at_170)
            have N79 := Fr.snoc X79 N0 g_b76
            refine own_st st79 ?_
            have Zs80 : n0 ≤ h79.size := Nat.le_trans Zs77 (Keep.of_wr W79).1
            have Vw79 : Arv Z h79 b76 k76 .int (5 : Int32) [(.int x3), (.int (0 : Int32)), (.int (0 : Int32)), (.int (0 : Int32)), (.int (0 : Int32))] (.int (0 : Int32)) := Arv.set Ar79 qq79 Ss79 Nn79 Hh79 Gg79 rfl W79 0 (rfl) (Nat.le_of_ble_eq_true rfl)
            show own_Gl _ _ _ _ _ _ _ (T79.setTop (mkF m 171 #[.val (.int p1), .val (.int p2), .val (.int ((p2 &&& (2147483647 : Int32)) % (6 : Int32))), .val (.int x3), .val (.int x4), .val (.int x5), .val (.int x6), .val (.int x7), .unset, .unset, .unset, .unset, .unset] [(.ref b76)]))
            refine own_st (fun _ k => XS.dup X79.here hx rfl (hb hby at_171) rfl rfl k) ?_
            show own_Gl _ _ _ _ _ _ _ (T79.setTop (mkF m 172 #[.val (.int p1), .val (.int p2), .val (.int ((p2 &&& (2147483647 : Int32)) % (6 : Int32))), .val (.int x3), .val (.int x4), .val (.int x5), .val (.int x6), .val (.int x7), .unset, .unset, .unset, .unset, .unset] [(.ref b76), (.ref b76)]))
            refine own_st (fun _ k => XS.iconst X79.here hx rfl (hb hby at_172) k) ?_
            show own_Gl _ _ _ _ _ _ _ (T79.setTop (mkF m 173 #[.val (.int p1), .val (.int p2), .val (.int ((p2 &&& (2147483647 : Int32)) % (6 : Int32))), .val (.int x3), .val (.int x4), .val (.int x5), .val (.int x6), .val (.int x7), .unset, .unset, .unset, .unset, .unset] [(.int (1 : Int32)), (.ref b76), (.ref b76)]))
            refine own_st (fun _ k => XS.iload X79.here hx rfl (hb hby at_173) rfl k) ?_
            show own_Gl _ _ _ _ _ _ _ (T79.setTop (mkF m 175 #[.val (.int p1), .val (.int p2), .val (.int ((p2 &&& (2147483647 : Int32)) % (6 : Int32))), .val (.int x3), .val (.int x4), .val (.int x5), .val (.int x6), .val (.int x7), .unset, .unset, .unset, .unset, .unset] [(.int x4), (.int (1 : Int32)), (.ref b76), (.ref b76)]))
            obtain ⟨cl81, Ar81, qq81, Ss81, Nn81, Hh81, Gg81⟩ := id Vw79
            have hin81 : ¬ ((1 : Int32) < 0 ∨ cl81.slots.size ≤ ((1 : Int32)).toNatClampNeg) := inb_of Ss81 ⟨by decide, by decide⟩
            obtain ⟨T81, h81, X81, e81, W81, st81⟩ := stI X79 hx hZ e79 Ar81 (j := (1 : Int32)) hin81 (g := (mkF m 175 #[.val (.int p1), .val (.int p2), .val (.int ((p2 &&& (2147483647 : Int32)) % (6 : Int32))), .val (.int x3), .val (.int x4), .val (.int x5), .val (.int x6), .val (.int x7), .unset, .unset, .unset, .unset, .unset] [(.int x4), (.int (1 : Int32)), (.ref b76), (.ref b76)])) rfl rfl (hb hby at_175)
            have N81 := Fr.snoc X81 N79 g_b76
            refine own_st st81 ?_
            have Zs82 : n0 ≤ h81.size := Nat.le_trans Zs80 (Keep.of_wr W81).1
            have Vw81 : Arv Z h81 b76 k76 .int (5 : Int32) [(.int x3), (.int x4), (.int (0 : Int32)), (.int (0 : Int32)), (.int (0 : Int32))] (.int (0 : Int32)) := Arv.set Ar81 qq81 Ss81 Nn81 Hh81 Gg81 rfl W81 1 (rfl) (Nat.le_of_ble_eq_true rfl)
            show own_Gl _ _ _ _ _ _ _ (T81.setTop (mkF m 176 #[.val (.int p1), .val (.int p2), .val (.int ((p2 &&& (2147483647 : Int32)) % (6 : Int32))), .val (.int x3), .val (.int x4), .val (.int x5), .val (.int x6), .val (.int x7), .unset, .unset, .unset, .unset, .unset] [(.ref b76)]))
            refine own_st (fun _ k => XS.dup X81.here hx rfl (hb hby at_176) rfl rfl k) ?_
            show own_Gl _ _ _ _ _ _ _ (T81.setTop (mkF m 177 #[.val (.int p1), .val (.int p2), .val (.int ((p2 &&& (2147483647 : Int32)) % (6 : Int32))), .val (.int x3), .val (.int x4), .val (.int x5), .val (.int x6), .val (.int x7), .unset, .unset, .unset, .unset, .unset] [(.ref b76), (.ref b76)]))
            refine own_st (fun _ k => XS.iconst X81.here hx rfl (hb hby at_177) k) ?_
            show own_Gl _ _ _ _ _ _ _ (T81.setTop (mkF m 178 #[.val (.int p1), .val (.int p2), .val (.int ((p2 &&& (2147483647 : Int32)) % (6 : Int32))), .val (.int x3), .val (.int x4), .val (.int x5), .val (.int x6), .val (.int x7), .unset, .unset, .unset, .unset, .unset] [(.int (2 : Int32)), (.ref b76), (.ref b76)]))
            refine own_st (fun _ k => XS.iload X81.here hx rfl (hb hby at_178) rfl k) ?_
            show own_Gl _ _ _ _ _ _ _ (T81.setTop (mkF m 180 #[.val (.int p1), .val (.int p2), .val (.int ((p2 &&& (2147483647 : Int32)) % (6 : Int32))), .val (.int x3), .val (.int x4), .val (.int x5), .val (.int x6), .val (.int x7), .unset, .unset, .unset, .unset, .unset] [(.int x5), (.int (2 : Int32)), (.ref b76), (.ref b76)]))
            obtain ⟨cl83, Ar83, qq83, Ss83, Nn83, Hh83, Gg83⟩ := id Vw81
            have hin83 : ¬ ((2 : Int32) < 0 ∨ cl83.slots.size ≤ ((2 : Int32)).toNatClampNeg) := inb_of Ss83 ⟨by decide, by decide⟩
            obtain ⟨T83, h83, X83, e83, W83, st83⟩ := stI X81 hx hZ e81 Ar83 (j := (2 : Int32)) hin83 (g := (mkF m 180 #[.val (.int p1), .val (.int p2), .val (.int ((p2 &&& (2147483647 : Int32)) % (6 : Int32))), .val (.int x3), .val (.int x4), .val (.int x5), .val (.int x6), .val (.int x7), .unset, .unset, .unset, .unset, .unset] [(.int x5), (.int (2 : Int32)), (.ref b76), (.ref b76)])) rfl rfl (hb hby at_180)
            have N83 := Fr.snoc X83 N81 g_b76
            refine own_st st83 ?_
            have Zs84 : n0 ≤ h83.size := Nat.le_trans Zs82 (Keep.of_wr W83).1
            have Vw83 : Arv Z h83 b76 k76 .int (5 : Int32) [(.int x3), (.int x4), (.int x5), (.int (0 : Int32)), (.int (0 : Int32))] (.int (0 : Int32)) := Arv.set Ar83 qq83 Ss83 Nn83 Hh83 Gg83 rfl W83 2 (rfl) (Nat.le_of_ble_eq_true rfl)
            show own_Gl _ _ _ _ _ _ _ (T83.setTop (mkF m 181 #[.val (.int p1), .val (.int p2), .val (.int ((p2 &&& (2147483647 : Int32)) % (6 : Int32))), .val (.int x3), .val (.int x4), .val (.int x5), .val (.int x6), .val (.int x7), .unset, .unset, .unset, .unset, .unset] [(.ref b76)]))
            refine own_st (fun _ k => XS.dup X83.here hx rfl (hb hby at_181) rfl rfl k) ?_
            show own_Gl _ _ _ _ _ _ _ (T83.setTop (mkF m 182 #[.val (.int p1), .val (.int p2), .val (.int ((p2 &&& (2147483647 : Int32)) % (6 : Int32))), .val (.int x3), .val (.int x4), .val (.int x5), .val (.int x6), .val (.int x7), .unset, .unset, .unset, .unset, .unset] [(.ref b76), (.ref b76)]))
            refine own_st (fun _ k => XS.iconst X83.here hx rfl (hb hby at_182) k) ?_
            show own_Gl _ _ _ _ _ _ _ (T83.setTop (mkF m 183 #[.val (.int p1), .val (.int p2), .val (.int ((p2 &&& (2147483647 : Int32)) % (6 : Int32))), .val (.int x3), .val (.int x4), .val (.int x5), .val (.int x6), .val (.int x7), .unset, .unset, .unset, .unset, .unset] [(.int (3 : Int32)), (.ref b76), (.ref b76)]))
            refine own_st (fun _ k => XS.iload X83.here hx rfl (hb hby at_183) rfl k) ?_
            show own_Gl _ _ _ _ _ _ _ (T83.setTop (mkF m 185 #[.val (.int p1), .val (.int p2), .val (.int ((p2 &&& (2147483647 : Int32)) % (6 : Int32))), .val (.int x3), .val (.int x4), .val (.int x5), .val (.int x6), .val (.int x7), .unset, .unset, .unset, .unset, .unset] [(.int x6), (.int (3 : Int32)), (.ref b76), (.ref b76)]))
            obtain ⟨cl85, Ar85, qq85, Ss85, Nn85, Hh85, Gg85⟩ := id Vw83
            have hin85 : ¬ ((3 : Int32) < 0 ∨ cl85.slots.size ≤ ((3 : Int32)).toNatClampNeg) := inb_of Ss85 ⟨by decide, by decide⟩
            obtain ⟨T85, h85, X85, e85, W85, st85⟩ := stI X83 hx hZ e83 Ar85 (j := (3 : Int32)) hin85 (g := (mkF m 185 #[.val (.int p1), .val (.int p2), .val (.int ((p2 &&& (2147483647 : Int32)) % (6 : Int32))), .val (.int x3), .val (.int x4), .val (.int x5), .val (.int x6), .val (.int x7), .unset, .unset, .unset, .unset, .unset] [(.int x6), (.int (3 : Int32)), (.ref b76), (.ref b76)])) rfl rfl (hb hby at_185)
            have N85 := Fr.snoc X85 N83 g_b76
            refine own_st st85 ?_
            have Zs86 : n0 ≤ h85.size := Nat.le_trans Zs84 (Keep.of_wr W85).1
            have Vw85 : Arv Z h85 b76 k76 .int (5 : Int32) [(.int x3), (.int x4), (.int x5), (.int x6), (.int (0 : Int32))] (.int (0 : Int32)) := Arv.set Ar85 qq85 Ss85 Nn85 Hh85 Gg85 rfl W85 3 (rfl) (Nat.le_of_ble_eq_true rfl)
            show own_Gl _ _ _ _ _ _ _ (T85.setTop (mkF m 186 #[.val (.int p1), .val (.int p2), .val (.int ((p2 &&& (2147483647 : Int32)) % (6 : Int32))), .val (.int x3), .val (.int x4), .val (.int x5), .val (.int x6), .val (.int x7), .unset, .unset, .unset, .unset, .unset] [(.ref b76)]))
            refine own_st (fun _ k => XS.dup X85.here hx rfl (hb hby at_186) rfl rfl k) ?_
            show own_Gl _ _ _ _ _ _ _ (T85.setTop (mkF m 187 #[.val (.int p1), .val (.int p2), .val (.int ((p2 &&& (2147483647 : Int32)) % (6 : Int32))), .val (.int x3), .val (.int x4), .val (.int x5), .val (.int x6), .val (.int x7), .unset, .unset, .unset, .unset, .unset] [(.ref b76), (.ref b76)]))
            refine own_st (fun _ k => XS.iconst X85.here hx rfl (hb hby at_187) k) ?_
            show own_Gl _ _ _ _ _ _ _ (T85.setTop (mkF m 188 #[.val (.int p1), .val (.int p2), .val (.int ((p2 &&& (2147483647 : Int32)) % (6 : Int32))), .val (.int x3), .val (.int x4), .val (.int x5), .val (.int x6), .val (.int x7), .unset, .unset, .unset, .unset, .unset] [(.int (4 : Int32)), (.ref b76), (.ref b76)]))
            refine own_st (fun _ k => XS.iload X85.here hx rfl (hb hby at_188) rfl k) ?_
            show own_Gl _ _ _ _ _ _ _ (T85.setTop (mkF m 190 #[.val (.int p1), .val (.int p2), .val (.int ((p2 &&& (2147483647 : Int32)) % (6 : Int32))), .val (.int x3), .val (.int x4), .val (.int x5), .val (.int x6), .val (.int x7), .unset, .unset, .unset, .unset, .unset] [(.int x7), (.int (4 : Int32)), (.ref b76), (.ref b76)]))
            obtain ⟨cl87, Ar87, qq87, Ss87, Nn87, Hh87, Gg87⟩ := id Vw85
            have hin87 : ¬ ((4 : Int32) < 0 ∨ cl87.slots.size ≤ ((4 : Int32)).toNatClampNeg) := inb_of Ss87 ⟨by decide, by decide⟩
            obtain ⟨T87, h87, X87, e87, W87, st87⟩ := stI X85 hx hZ e85 Ar87 (j := (4 : Int32)) hin87 (g := (mkF m 190 #[.val (.int p1), .val (.int p2), .val (.int ((p2 &&& (2147483647 : Int32)) % (6 : Int32))), .val (.int x3), .val (.int x4), .val (.int x5), .val (.int x6), .val (.int x7), .unset, .unset, .unset, .unset, .unset] [(.int x7), (.int (4 : Int32)), (.ref b76), (.ref b76)])) rfl rfl (hb hby at_190)
            have N87 := Fr.snoc X87 N85 g_b76
            refine own_st st87 ?_
            have Zs88 : n0 ≤ h87.size := Nat.le_trans Zs86 (Keep.of_wr W87).1
            have Vw87 : Arv Z h87 b76 k76 .int (5 : Int32) [(.int x3), (.int x4), (.int x5), (.int x6), (.int x7)] (.int (0 : Int32)) := Arv.set Ar87 qq87 Ss87 Nn87 Hh87 Gg87 rfl W87 4 (rfl) (Nat.le_of_ble_eq_true rfl)
            show own_Gl _ _ _ _ _ _ _ (T87.setTop (mkF m 191 #[.val (.int p1), .val (.int p2), .val (.int ((p2 &&& (2147483647 : Int32)) % (6 : Int32))), .val (.int x3), .val (.int x4), .val (.int x5), .val (.int x6), .val (.int x7), .unset, .unset, .unset, .unset, .unset] [(.ref b76)]))
            refine own_st (fun _ k => XS.astore X87.here hx rfl (hb hby at_191) rfl rfl (l' := #[.val (.int p1), .val (.int p2), .val (.int ((p2 &&& (2147483647 : Int32)) % (6 : Int32))), .val (.int x3), .val (.int x4), .val (.int x5), .val (.int x6), .val (.int x7), .val (.ref b76), .unset, .unset, .unset, .unset]) rfl k) ?_
            show own_Gl _ _ _ _ _ _ _ (T87.setTop (mkF m 193 #[.val (.int p1), .val (.int p2), .val (.int ((p2 &&& (2147483647 : Int32)) % (6 : Int32))), .val (.int x3), .val (.int x4), .val (.int x5), .val (.int x6), .val (.int x7), .val (.ref b76), .unset, .unset, .unset, .unset] []))
            have K89 : Keep h0 h87 [] := (((((((Keep.refl h0 []).ext E76).wr W79 (Or.inr gh_b76)).wr W81 (Or.inr gh_b76)).wr W83 (Or.inr gh_b76)).wr W85 (Or.inr gh_b76)).wr W87 (Or.inr gh_b76))
            show own_Gl _ _ _ _ _ _ _ (T87.setTop (mkF m 193 #[.val (.int p1), .val (.int p2), .val (.int ((p2 &&& (2147483647 : Int32)) % (6 : Int32))), .val (.int x3), .val (.int x4), .val (.int x5), .val (.int x6), .val (.int x7), .val (.ref b76), .unset, .unset, .unset, .unset] []))
            exact J193_1 T87 _ N87 X87 _ e87 (b76) (k76) ((5 : Int32)) ([x3, x4, x5, x6, x7]) Zs88 K89 Vw87 rfl (own_all5 _ hm3 _ hm4 _ hm5 _ hm6 _ hm7)
set_option maxRecDepth 65536 in
set_option maxHeartbeats 40000000 in
theorem comes_1 {Post : Tables → Env → Array Value → State → Outcome → State → Prop} (hpost : ∀ tb e args s v u, (limb_1_1.after args s (.returned v) u = true ∧ limb_1_2.after args s (.returned v) u = true ∧ True) → FrameEnd s (.returned v) u (Jvm.fieldLocs frame_1_writes args s ++ Jvm.arrayLocs frame_1_arrays args s ++ Jvm.staticLocs frame_1_statics s) 16 128 → Post tb e args s (.returned v) u) :
    ArmFor flags0 classFile x code maxLocals ret World_1 tables_1 room_1 Calls_1 rest_1 Pre_1 Post := by
  intro l hfl _ _ p e ha hc hk s m args below hf hA hF happ hP
  obtain ⟨hcalls, hrest, hpre⟩ := hP
  obtain ⟨-, -, -, hnamed, -, -, -, hat⟩ := (Spec.applies_iff hf).mp happ
  obtain ⟨hg, hn⟩ := and_e (Cond.before_iff.mp (show (Jvm.Cond.and given_1 narrow_1).before args s = true from hpre))
  obtain ⟨gg1, gg2⟩ := and_e hg
  obtain ⟨gg3, gg4⟩ := and_e gg2
  obtain ⟨w0, w1, rfl⟩ : ∃ w0 w1 : Value, args = #[w0, w1] := by
    have hs : args.size = 2 := by simpa [Cond.value, given_1] using gg1
    obtain ⟨L⟩ := args
    match L, hs with
    | [w0, w1], _ => exact ⟨w0, w1, rfl⟩
  have hw := fun d (hd : d ∈ tables_1) => atoms_spec (ws := Jvm.Cond.code x code maxLocals ret :: tables_1) hat d (List.mem_cons_of_mem _ hd)
  have hfit : Fit s := fun {y c} hc i hi => by
    obtain ⟨ha, rfl⟩ := Array.getElem?_eq_some_iff.mp hc
    have q := List.all_eq_true.mp ((Array.all_eq_true_iff_forall_mem.mp hF) _ (Array.getElem_mem ha)) i (List.mem_range.mpr hi)
    simpa [Array.getElem?_eq_getElem hi] using q
  obtain ⟨i0, ei0⟩ := is_v gg3
  obtain rfl : w0 = (.int i0) := Option.some.inj ei0
  obtain ⟨i1, ei1⟩ := is_v gg4
  obtain rfl : w1 = (.int i1) := Option.some.inj ei1
  obtain ⟨n, o, h1, h2, h3, _, L, rfl, ⟨rfl, N⟩, hq⟩ := own_law l s _ hw tables_1 i0 i1  s.heap s.heap.size (Nat.le_refl _)  p e ha hc hk s m _ below hf ((Spec.applies_iff_loose hf).mp happ).1 ⟨rfl, State.Warmed39.refl s, rfl⟩ trivial
  refine ⟨n, _, h1, h2, h3, hpost _ _ _ _ _ _ ⟨Cond.after_iff.mpr rfl, Cond.after_iff.mpr (eq_i res_at (Term.int_eval (1)) rfl), trivial⟩ ⟨hq.1, hq.2.1, (hq.2.2.sift fun y hy => Or.inr (N y hy)).mono (by decide) (by decide)⟩⟩
theorem main_1_1 : Claimed_1_1 := comes_1 fun _ _ _ _ _ _ h hF => ⟨h.1, hF⟩
theorem main_1_2 : Claimed_1_2 := comes_1 fun _ _ _ _ _ _ h hF => ⟨h.2.1, hF⟩

end Jvm.Pilot.@@N@@
namespace Jvm.Pilot.@@N@@
open Jvm Jvm.ClassFile Sem Op Lib Jvm.Free Jvm.Stand Jvm.Pilot.@@N@@.Jvm.D
/-! MADE BY PROGRAM (witnessworld.py) out of the Statement's table words and the real class files: 9 classes; the members and pool entries that the words name. The judged class is class 1, her method 9. -/
namespace start1
open Jvm.ClassFile
def u (s : String) : CpInfo := .utf8 (stringToUtf16 s)
/-- a pool by its gaps: so many unusable entries, then the entry; so many at the end -/
def gap : Nat → List CpInfo → List CpInfo
  | 0, r => r
  | n + 1, r => .unusable :: gap n r
def poolList (es : List (Nat × CpInfo)) (last : Nat) : List CpInfo := es.foldr (fun e r => gap e.1 (e.2 :: r)) (gap last [])
def pool (es : List (Nat × CpInfo)) (last : Nat) : Array CpInfo := ⟨poolList es last⟩
def fileOf (pool : Array CpInfo) (this : Nat) (attrs : Array Attribute := #[]) (ms : Array MethodInfo := #[]) (fl : Nat := 33) (sup : Nat := 0) (ifs : Array Nat := #[]) (fds : Array FieldInfo := #[]) : ClassFile where
  minorVersion := 0
  majorVersion := 65
  constantPool := pool
  accessFlags := fl
  thisClass := this
  superClass := sup
  interfaces := ifs
  fields := fds
  methods := ms
  attributes := attrs
def plain (name : String) (sup : Option ClassId) : Class where
  name := name
  kind := .ordinary
  loader := none
  accessFlags := 33
  super := sup
  interfaces := #[]
  cf := none
  fields := #[]
  methods := #[]
  instanceTypes := #[]
  staticTypes := #[]
  resolved := #[]
  callSites := []
  init := .initialized
  statics := none
  mirror := none

def pool0 : Array CpInfo := pool [(5, u "<init>"), (0, u "()V"), (1, .class_ 10), (1, u "java/lang/Object")] 113

def k0m0 : Method := { name := "<init>", desc := "()V", sig := { parameters := [], returnType := none }, accessFlags := 1, code := none }
/-- java/lang/Object -/
def k0 : Class := { plain "java/lang/Object" none with
  accessFlags := 33
  interfaces := #[]
  cf := some (fileOf pool0 8 #[] #[{ accessFlags := 1, nameIndex := 5, descriptorIndex := 6, attributes := #[] }] 33 0 #[] #[])
  fields := #[]
  methods := #[k0m0]
  instanceTypes := #[]
  staticTypes := #[]
  resolved := Array.replicate 124 none
  statics := none }

def pool1 : Array CpInfo := pool [(2, .class_ 4), (1, u "java/lang/Object"), (0, u "<init>"), (0, u "()V"), (0, .class_ 8), (0, u "org/benli/core/Bernstein"), (0, .methodref 10 11), (0, .class_ 12), (0, .nameAndType 13 14), (0, u "org/benli/core/BernsteinSignChangesPinLaw"), (0, u "at"), (0, u "([II)I"), (0, .methodref 10 16), (0, .nameAndType 17 18), (0, u "skip"), (0, u "(IZ)Z"), (0, .methodref 10 20), (0, .nameAndType 21 22), (0, u "near"), (0, u "([IIIZ)I"), (0, .methodref 10 24), (0, .nameAndType 25 26), (0, u "known"), (0, u "(I)Z"), (0, .integer 2147483647), (0, .methodref 7 29), (0, .nameAndType 30 31), (0, u "signChanges"), (0, u "([I)I"), (0, .methodref 10 33), (0, .nameAndType 34 14), (0, u "isUntold"), (0, .methodref 10 36), (0, .nameAndType 37 14), (0, u "isKnown"), (0, .methodref 10 39), (0, .nameAndType 40 41), (0, u "pinned"), (0, u "([II)Z"), (0, .methodref 10 43), (0, .nameAndType 44 14), (0, u "changeAt"), (3, u "law"), (0, u "(II)Z")] 4

def k1m0 : Method := { name := "<init>", desc := "()V", sig := { parameters := [], returnType := none }, accessFlags := 1, code := none }
def k1c1 : Code := { maxStack := 2, maxLocals := 2, code := method_2_code, exceptionTable := #[], attributes := #[] }
def k1m1 : Method := { name := "at", desc := "([II)I", sig := { parameters := [(.array .int), .int], returnType := some .int }, accessFlags := 10, code := some k1c1 }
def k1c2 : Code := { maxStack := 2, maxLocals := 2, code := method_3_code, exceptionTable := #[], attributes := #[] }
def k1m2 : Method := { name := "skip", desc := "(IZ)Z", sig := { parameters := [.int, .boolean], returnType := some .boolean }, accessFlags := 10, code := some k1c2 }
def k1c3 : Code := { maxStack := 4, maxLocals := 5, code := method_4_code, exceptionTable := #[], attributes := #[] }
def k1m3 : Method := { name := "near", desc := "([IIIZ)I", sig := { parameters := [(.array .int), .int, .int, .boolean], returnType := some .int }, accessFlags := 10, code := some k1c3 }
def k1c4 : Code := { maxStack := 2, maxLocals := 1, code := method_5_code, exceptionTable := #[], attributes := #[] }
def k1m4 : Method := { name := "known", desc := "(I)Z", sig := { parameters := [.int], returnType := some .boolean }, accessFlags := 10, code := some k1c4 }
def k1c5 : Code := { maxStack := 4, maxLocals := 4, code := method_6_code, exceptionTable := #[], attributes := #[] }
def k1m5 : Method := { name := "pinned", desc := "([II)Z", sig := { parameters := [(.array .int), .int], returnType := some .boolean }, accessFlags := 10, code := some k1c5 }
def k1c6 : Code := { maxStack := 4, maxLocals := 3, code := method_7_code, exceptionTable := #[], attributes := #[] }
def k1m6 : Method := { name := "changeAt", desc := "([II)I", sig := { parameters := [(.array .int), .int], returnType := some .int }, accessFlags := 10, code := some k1c6 }
def k1c7 : Code := { maxStack := 2, maxLocals := 2, code := method_8_code, exceptionTable := #[], attributes := #[] }
def k1m7 : Method := { name := "isUntold", desc := "([II)I", sig := { parameters := [(.array .int), .int], returnType := some .int }, accessFlags := 10, code := some k1c7 }
def k1c8 : Code := { maxStack := 2, maxLocals := 2, code := method_9_code, exceptionTable := #[], attributes := #[] }
def k1m8 : Method := { name := "isKnown", desc := "([II)I", sig := { parameters := [(.array .int), .int], returnType := some .int }, accessFlags := 10, code := some k1c8 }
def k1c9 : Code := { maxStack := 4, maxLocals := 13, code := code, exceptionTable := #[], attributes := #[] }
def k1m9 : Method := { name := "law", desc := "(II)Z", sig := { parameters := [.int, .int], returnType := some .boolean }, accessFlags := 9, code := some k1c9 }
/-- org/benli/core/BernsteinSignChangesPinLaw -/
def k1 : Class := { plain "org/benli/core/BernsteinSignChangesPinLaw" (some 0) with
  accessFlags := 49
  interfaces := #[]
  cf := some (fileOf pool1 10 #[] #[{ accessFlags := 1, nameIndex := 5, descriptorIndex := 6, attributes := #[] }, { accessFlags := 10, nameIndex := 13, descriptorIndex := 14, attributes := #[] }, { accessFlags := 10, nameIndex := 17, descriptorIndex := 18, attributes := #[] }, { accessFlags := 10, nameIndex := 21, descriptorIndex := 22, attributes := #[] }, { accessFlags := 10, nameIndex := 25, descriptorIndex := 26, attributes := #[] }, { accessFlags := 10, nameIndex := 40, descriptorIndex := 41, attributes := #[] }, { accessFlags := 10, nameIndex := 44, descriptorIndex := 14, attributes := #[] }, { accessFlags := 10, nameIndex := 34, descriptorIndex := 14, attributes := #[] }, { accessFlags := 10, nameIndex := 37, descriptorIndex := 14, attributes := #[] }, { accessFlags := 9, nameIndex := 48, descriptorIndex := 49, attributes := #[] }] 49 2 #[] #[])
  fields := #[]
  methods := #[k1m0, k1m1, k1m2, k1m3, k1m4, k1m5, k1m6, k1m7, k1m8, k1m9]
  instanceTypes := #[]
  staticTypes := #[]
  resolved := Array.replicate 54 none
  statics := none }

def pool2 : Array CpInfo := pool [(2, .class_ 4), (1, u "java/lang/Object"), (3, .class_ 10), (1, u "org/benli/core/Bernstein"), (0, u "polynomial"), (0, u "Lorg/benli/core/Polynomial;"), (2, u "lo"), (0, u "Lorg/benli/core/Fraction;"), (2, u "hi"), (2, u "coefficients"), (0, u "[Ljava/math/BigInteger;"), (2, u "error"), (0, u "J"), (2, u "signAtLo"), (0, u "I"), (2, u "signAtHi"), (2, u "signChanges"), (0, u "([I)I"), (2, u "variations"), (2, u "slopeVariations"), (134, .class_ 181), (1, u "org/benli/core/Bernstein$Parts"), (25, u "exact"), (0, u "Lorg/benli/core/Bernstein;"), (87, u "UNTOLD"), (2, u "GUARD_BITS"), (1, u "SHORT_DIGITS")] 98

def k2c0 : Code := { maxStack := 2, maxLocals := 8, code := prog_23_method_4_code, exceptionTable := #[], attributes := #[] }
def k2m0 : Method := { name := "signChanges", desc := "([I)I", sig := { parameters := [(.array .int)], returnType := some .int }, accessFlags := 8, code := some k2c0 }
/-- org/benli/core/Bernstein -/
def k2 : Class := { plain "org/benli/core/Bernstein" (some 0) with
  accessFlags := 48
  interfaces := #[]
  cf := some (fileOf pool2 8 #[.nestMembers #[179]] #[{ accessFlags := 8, nameIndex := 37, descriptorIndex := 38, attributes := #[] }] 48 2 #[] #[{ accessFlags := 24, nameIndex := 296, descriptorIndex := 31, attributes := #[] }, { accessFlags := 26, nameIndex := 299, descriptorIndex := 31, attributes := #[] }, { accessFlags := 26, nameIndex := 301, descriptorIndex := 31, attributes := #[] }, { accessFlags := 18, nameIndex := 11, descriptorIndex := 12, attributes := #[] }, { accessFlags := 18, nameIndex := 15, descriptorIndex := 16, attributes := #[] }, { accessFlags := 18, nameIndex := 19, descriptorIndex := 16, attributes := #[] }, { accessFlags := 18, nameIndex := 22, descriptorIndex := 23, attributes := #[] }, { accessFlags := 18, nameIndex := 26, descriptorIndex := 27, attributes := #[] }, { accessFlags := 18, nameIndex := 30, descriptorIndex := 31, attributes := #[] }, { accessFlags := 18, nameIndex := 34, descriptorIndex := 31, attributes := #[] }, { accessFlags := 18, nameIndex := 41, descriptorIndex := 31, attributes := #[] }, { accessFlags := 18, nameIndex := 44, descriptorIndex := 31, attributes := #[] }, { accessFlags := 2, nameIndex := 207, descriptorIndex := 208, attributes := #[] }])
  fields := #[{ name := "UNTOLD", type := .int, accessFlags := 24, slot := 0, constantValue := 0 }, { name := "GUARD_BITS", type := .int, accessFlags := 26, slot := 1, constantValue := 0 }, { name := "SHORT_DIGITS", type := .int, accessFlags := 26, slot := 2, constantValue := 0 }, { name := "polynomial", type := (.object "org/benli/core/Polynomial"), accessFlags := 18, slot := 0, constantValue := 0 }, { name := "lo", type := (.object "org/benli/core/Fraction"), accessFlags := 18, slot := 1, constantValue := 0 }, { name := "hi", type := (.object "org/benli/core/Fraction"), accessFlags := 18, slot := 2, constantValue := 0 }, { name := "coefficients", type := (.array (.object "java/math/BigInteger")), accessFlags := 18, slot := 3, constantValue := 0 }, { name := "error", type := .long, accessFlags := 18, slot := 4, constantValue := 0 }, { name := "signAtLo", type := .int, accessFlags := 18, slot := 5, constantValue := 0 }, { name := "signAtHi", type := .int, accessFlags := 18, slot := 6, constantValue := 0 }, { name := "variations", type := .int, accessFlags := 18, slot := 7, constantValue := 0 }, { name := "slopeVariations", type := .int, accessFlags := 18, slot := 8, constantValue := 0 }, { name := "exact", type := (.object "org/benli/core/Bernstein"), accessFlags := 2, slot := 9, constantValue := 0 }]
  methods := #[k2m0]
  instanceTypes := #[(.object "org/benli/core/Polynomial"), (.object "org/benli/core/Fraction"), (.object "org/benli/core/Fraction"), (.array (.object "java/math/BigInteger")), .long, .int, .int, .int, .int, (.object "org/benli/core/Bernstein")]
  staticTypes := #[.int, .int, .int]
  resolved := Array.replicate 400 none
  statics := none }

def pool3 : Array CpInfo := pool [(1, u "java/lang/Cloneable"), (0, .class_ 1), (0, u "java/lang/Object"), (0, .class_ 3)] 3

/-- java/lang/Cloneable -/
def k3 : Class := { plain "java/lang/Cloneable" (some 0) with
  accessFlags := 1537
  interfaces := #[]
  cf := some (fileOf pool3 2 #[] #[] 1537 4 #[] #[])
  fields := #[]
  methods := #[]
  instanceTypes := #[]
  staticTypes := #[]
  resolved := Array.replicate 8 none
  statics := none }

def pool4 : Array CpInfo := pool [(1, u "java/io/Serializable"), (0, .class_ 1), (0, u "java/lang/Object"), (0, .class_ 3)] 3

/-- java/io/Serializable -/
def k4 : Class := { plain "java/io/Serializable" (some 0) with
  accessFlags := 1537
  interfaces := #[]
  cf := some (fileOf pool4 2 #[] #[] 1537 4 #[] #[])
  fields := #[]
  methods := #[]
  instanceTypes := #[]
  staticTypes := #[]
  resolved := Array.replicate 8 none
  statics := none }

/-- the primitive byte -/
def k5 : Class := { plain "byte" none with kind := .primitive 'B', accessFlags := 0x411 }
/-- [B -/
def k6 : Class := { plain "[B" (some 0) with kind := .array 5 .byte, interfaces := #[3, 4], accessFlags := 1041 }

/-- the primitive int -/
def k7 : Class := { plain "int" none with kind := .primitive 'I', accessFlags := 0x411 }
/-- [I -/
def k8 : Class := { plain "[I" (some 0) with kind := .array 7 .int, interfaces := #[3, 4], accessFlags := 1041 }

def heap : Heap := #[]
def classes : Array Class := #[k0, k1, k2, k3, k4, k5, k6, k7, k8]
def interned : List (Array UInt16 × Addr) := []
def slotsUsed : Nat := 0
def theMethod : MethodId := ⟨1, 9⟩
def args0 : Array Value := #[.int 5, .int 7]
def aboutOver (below : List Frame) : State where
  vm := { classes := classes, interned := interned.toArray }
  heap := heap
  slotsUsed := slotsUsed
  threads := #[{ frames := .invoking theMethod args0 :: below }]
def below0 : List Frame := [.native { method := ⟨0, 0⟩, args := #[] }]
def about1 : State := aboutOver below0
def p0 : Program := .bare "" "" ""
def e0 : Env := launch0.env 0 0 0
theorem w_frames : about1.frames = Frame.invoking theMethod args0 :: below0 := rfl
set_option maxRecDepth 65536 in
theorem w_args : argsFit about1.vm theMethod args0 = true := by decide +kernel
set_option maxRecDepth 65536 in
theorem w_heap : heapFits about1 = true := by decide +kernel
set_option maxRecDepth 65536 in
theorem w_runnable : about1.curStatus? = some .runnable := by decide +kernel
set_option maxRecDepth 65536 in
theorem w_alone : about1.alone = true := by decide +kernel
set_option maxRecDepth 65536 in
theorem w_named : about1.methodNamed? x = some theMethod := by decide +kernel
set_option maxRecDepth 65536 in
theorem w_hears : about1.hears theMethod below0 = true := by decide +kernel
set_option maxRecDepth 65536 in
theorem w_ripe : about1.ripe theMethod args0 below0 = true := by decide +kernel
theorem w_running : about1.status = .running := rfl
set_option maxRecDepth 65536 in
theorem w_room : about1.hasRoom e0.platform room_1 = true :=
  launch0.hasRoom_least _ room_1 (by decide +kernel) (by decide +kernel) (by decide +kernel) (by decide +kernel) (by decide +kernel) (by decide +kernel)
theorem allAtoms_all (ts : List Jvm.Cond) (a : Array Jvm.Value) (st : Jvm.State) : (allAtoms ts).before a st = ts.all (fun c => c.before a st) := by
  induction ts with
  | nil => rfl
  | cons c t ih =>
    show (Jvm.Cond.and c (allAtoms t)).before a st = _
    rw [Jvm.Cond.before_and, ih, List.all_cons]
def words1 : List Jvm.Cond := Jvm.Cond.code x code maxLocals ret :: tables_1
/-- a 'code' word, met by the world's own term for the bytes: nothing is compared byte by byte -/
theorem code_word {y : MethodName} {bytes : ByteArray} {mx : Nat} {rt : Option FieldType} {a : Array Value} {s : State} {m : MethodId} {meth : Method} {c : Code} (h1 : s.methodNamed? y = some m) (h2 : s.vm.method? m = some meth) (h3 : meth.code = some c) (h4 : c.code = bytes)
    (h5 : (c.maxLocals == mx && c.exceptionTable.isEmpty && decide (c.maxStack ≤ mostOperands) && decide (meth.sig.returnType = rt) && !meth.locks && decide (parseMethodDescriptor y.desc = some meth.sig)) = true) : (Jvm.Cond.code y bytes mx rt).before a s = true := by
  simp only [Bool.and_eq_true, beq_iff_eq, Bool.not_eq_true', decide_eq_true_eq] at h5
  obtain ⟨⟨⟨⟨⟨g1, g2⟩, g3⟩, g4⟩, g5⟩, g6⟩ := h5
  simp [Cond.before, Cond.holds, Cond.value, h1, h2, h3, h4, g1, g2, g3, g4, g5, g6]
def isCode : Jvm.Cond → Bool
  | .code _ _ _ _ => true
  | _ => false
theorem all_split {L : List Jvm.Cond} {P : Jvm.Cond → Bool} (h1 : L.all (fun c => isCode c || P c) = true) (h2 : ∀ c ∈ L.filter isCode, P c = true) : L.all P = true := by
  refine List.all_eq_true.mpr fun c hc => ?_
  have h := List.all_eq_true.mp h1 c hc
  rcases Bool.eq_false_or_eq_true (isCode c) with hi | hi
  · exact h2 c (List.mem_filter.mpr ⟨hc, hi⟩)
  · simpa [hi] using h
set_option maxRecDepth 65536 in
theorem w_c0 : (Jvm.Cond.code x code maxLocals ret).before args0 about1 = true := code_word (m := ⟨1, 9⟩) (meth := k1m9) (c := k1c9) (by decide +kernel) rfl rfl rfl (by decide +kernel)
set_option maxRecDepth 65536 in
theorem w_c1 : (Jvm.Cond.code ({ cls := "org/benli/core/Bernstein", name := "signChanges", desc := "([I)I" } : Jvm.MethodName) prog_23_method_4_code (8 : Nat) (Option.some Jvm.ClassFile.FieldType.int)).before args0 about1 = true := code_word (m := ⟨2, 0⟩) (meth := k2m0) (c := k2c0) (by decide +kernel) rfl rfl rfl (by decide +kernel)
set_option maxRecDepth 65536 in
theorem w_c2 : (Jvm.Cond.code ({ cls := "org/benli/core/BernsteinSignChangesPinLaw", name := "isUntold", desc := "([II)I" } : Jvm.MethodName) method_8_code (2 : Nat) (Option.some Jvm.ClassFile.FieldType.int)).before args0 about1 = true := code_word (m := ⟨1, 7⟩) (meth := k1m7) (c := k1c7) (by decide +kernel) rfl rfl rfl (by decide +kernel)
set_option maxRecDepth 65536 in
theorem w_c3 : (Jvm.Cond.code ({ cls := "org/benli/core/BernsteinSignChangesPinLaw", name := "at", desc := "([II)I" } : Jvm.MethodName) method_2_code (2 : Nat) (Option.some Jvm.ClassFile.FieldType.int)).before args0 about1 = true := code_word (m := ⟨1, 1⟩) (meth := k1m1) (c := k1c1) (by decide +kernel) rfl rfl rfl (by decide +kernel)
set_option maxRecDepth 65536 in
theorem w_c4 : (Jvm.Cond.code ({ cls := "org/benli/core/BernsteinSignChangesPinLaw", name := "isKnown", desc := "([II)I" } : Jvm.MethodName) method_9_code (2 : Nat) (Option.some Jvm.ClassFile.FieldType.int)).before args0 about1 = true := code_word (m := ⟨1, 8⟩) (meth := k1m8) (c := k1c8) (by decide +kernel) rfl rfl rfl (by decide +kernel)
set_option maxRecDepth 65536 in
theorem w_c5 : (Jvm.Cond.code ({ cls := "org/benli/core/BernsteinSignChangesPinLaw", name := "known", desc := "(I)Z" } : Jvm.MethodName) method_5_code (1 : Nat) (Option.some Jvm.ClassFile.FieldType.boolean)).before args0 about1 = true := code_word (m := ⟨1, 4⟩) (meth := k1m4) (c := k1c4) (by decide +kernel) rfl rfl rfl (by decide +kernel)
set_option maxRecDepth 65536 in
theorem w_c6 : (Jvm.Cond.code ({ cls := "org/benli/core/BernsteinSignChangesPinLaw", name := "pinned", desc := "([II)Z" } : Jvm.MethodName) method_6_code (4 : Nat) (Option.some Jvm.ClassFile.FieldType.boolean)).before args0 about1 = true := code_word (m := ⟨1, 5⟩) (meth := k1m5) (c := k1c5) (by decide +kernel) rfl rfl rfl (by decide +kernel)
set_option maxRecDepth 65536 in
theorem w_c7 : (Jvm.Cond.code ({ cls := "org/benli/core/BernsteinSignChangesPinLaw", name := "changeAt", desc := "([II)I" } : Jvm.MethodName) method_7_code (3 : Nat) (Option.some Jvm.ClassFile.FieldType.int)).before args0 about1 = true := code_word (m := ⟨1, 6⟩) (meth := k1m6) (c := k1c6) (by decide +kernel) rfl rfl rfl (by decide +kernel)
set_option maxRecDepth 65536 in
theorem w_c8 : (Jvm.Cond.code ({ cls := "org/benli/core/BernsteinSignChangesPinLaw", name := "near", desc := "([IIIZ)I" } : Jvm.MethodName) method_4_code (5 : Nat) (Option.some Jvm.ClassFile.FieldType.int)).before args0 about1 = true := code_word (m := ⟨1, 3⟩) (meth := k1m3) (c := k1c3) (by decide +kernel) rfl rfl rfl (by decide +kernel)
set_option maxRecDepth 65536 in
theorem w_c9 : (Jvm.Cond.code ({ cls := "org/benli/core/BernsteinSignChangesPinLaw", name := "skip", desc := "(IZ)Z" } : Jvm.MethodName) method_3_code (2 : Nat) (Option.some Jvm.ClassFile.FieldType.boolean)).before args0 about1 = true := code_word (m := ⟨1, 2⟩) (meth := k1m2) (c := k1c2) (by decide +kernel) rfl rfl rfl (by decide +kernel)
def codes1 : List Jvm.Cond := [Jvm.Cond.code x code maxLocals ret, Jvm.Cond.code ({ cls := "org/benli/core/Bernstein", name := "signChanges", desc := "([I)I" } : Jvm.MethodName) prog_23_method_4_code (8 : Nat) (Option.some Jvm.ClassFile.FieldType.int), Jvm.Cond.code ({ cls := "org/benli/core/BernsteinSignChangesPinLaw", name := "isUntold", desc := "([II)I" } : Jvm.MethodName) method_8_code (2 : Nat) (Option.some Jvm.ClassFile.FieldType.int), Jvm.Cond.code ({ cls := "org/benli/core/BernsteinSignChangesPinLaw", name := "at", desc := "([II)I" } : Jvm.MethodName) method_2_code (2 : Nat) (Option.some Jvm.ClassFile.FieldType.int), Jvm.Cond.code ({ cls := "org/benli/core/BernsteinSignChangesPinLaw", name := "isKnown", desc := "([II)I" } : Jvm.MethodName) method_9_code (2 : Nat) (Option.some Jvm.ClassFile.FieldType.int), Jvm.Cond.code ({ cls := "org/benli/core/BernsteinSignChangesPinLaw", name := "known", desc := "(I)Z" } : Jvm.MethodName) method_5_code (1 : Nat) (Option.some Jvm.ClassFile.FieldType.boolean), Jvm.Cond.code ({ cls := "org/benli/core/BernsteinSignChangesPinLaw", name := "pinned", desc := "([II)Z" } : Jvm.MethodName) method_6_code (4 : Nat) (Option.some Jvm.ClassFile.FieldType.boolean), Jvm.Cond.code ({ cls := "org/benli/core/BernsteinSignChangesPinLaw", name := "changeAt", desc := "([II)I" } : Jvm.MethodName) method_7_code (3 : Nat) (Option.some Jvm.ClassFile.FieldType.int), Jvm.Cond.code ({ cls := "org/benli/core/BernsteinSignChangesPinLaw", name := "near", desc := "([IIIZ)I" } : Jvm.MethodName) method_4_code (5 : Nat) (Option.some Jvm.ClassFile.FieldType.int), Jvm.Cond.code ({ cls := "org/benli/core/BernsteinSignChangesPinLaw", name := "skip", desc := "(IZ)Z" } : Jvm.MethodName) method_3_code (2 : Nat) (Option.some Jvm.ClassFile.FieldType.boolean)]
set_option maxRecDepth 65536 in
theorem codes_eq : words1.filter isCode = codes1 := rfl
theorem w_codes : ∀ c ∈ words1.filter isCode, c.before args0 about1 = true := by
  rw [codes_eq]
  intro c hc
  simp only [codes1, List.mem_cons, List.not_mem_nil, or_false] at hc
  rcases hc with rfl | rfl | rfl | rfl | rfl | rfl | rfl | rfl | rfl | rfl
  · exact w_c0
  · exact w_c1
  · exact w_c2
  · exact w_c3
  · exact w_c4
  · exact w_c5
  · exact w_c6
  · exact w_c7
  · exact w_c8
  · exact w_c9
set_option maxRecDepth 65536 in
theorem w_t1 : (words1.take 24).all (fun c => isCode c || c.before args0 about1) = true := by decide +kernel
set_option maxRecDepth 65536 in
theorem w_t2 : (words1.drop 24).all (fun c => isCode c || c.before args0 about1) = true := by decide +kernel
theorem w_tables : (allAtoms (Jvm.Cond.code x code maxLocals ret :: tables_1)).before args0 about1 = true := by
  rw [allAtoms_all]
  show words1.all (fun c => c.before args0 about1) = true
  refine all_split ?_ w_codes
  rw [← List.take_append_drop 24 words1, List.all_append, w_t1, w_t2]
  rfl
set_option maxRecDepth 65536 in
theorem w_case : (Jvm.Cond.and given_1 narrow_1).before args0 about1 = true := by decide +kernel
theorem w_applies : (headSpec (Jvm.Cond.code x code maxLocals ret :: tables_1) room_1).applies x e0.platform about1 = true :=
  (Spec.applies_iff w_frames).mpr ⟨w_running, w_runnable, w_alone, w_named, w_hears, w_ripe, w_room, w_tables⟩
theorem atStart : AtStart classFile x code maxLocals ret World_1 tables_1 room_1 Calls_1 rest_1 Pre_1 launch0 p0 e0 about1 theMethod args0 below0 :=
  ⟨lists_1, trivial, launch0.admits_env _ _ _, launch0.least_env, fairChoices_fair.cas, fairChoices_fair.clock, w_frames, w_args, w_heap, w_applies, trivial, trivial, w_case⟩
end start1
theorem witness_1 : WitnessClaimed_1 := ⟨start1.p0, start1.e0, start1.about1, start1.theMethod, start1.args0, start1.below0, start1.atStart⟩
end Jvm.Pilot.@@N@@
