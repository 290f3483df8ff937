import JvmDerived
import JvmDerived.Pilot.@@N@@Statement
import JvmDerived.Pilot.@@N@@Code
set_option linter.unusedVariables false
set_option linter.unusedSimpArgs false

namespace Jvm.Pilot.@@N@@
open Jvm Jvm.ClassFile Sem Op Lib Jvm.Free Jvm.Stand Jvm.LawKit Jvm.RoadKit Bundle Jvm.Pilot.@@N@@.Jvm.D

section OwnKit
variable {p : Program} {l : Launch} {e : Env} {R : Room} {s : State} {m : MethodId} {args : Array Value} {below : List Frame} {meth : Method} {c : Code} {T : State} {locs : List Loc} {cells slots : Nat} {h : Heap} {Q : Option Value → Heap → List Loc → Prop} {C S : Nat}
/-- from the state t the run comes to its end, and what it leaves answers Q -/
def own_Gl (p : Program) (e : Env) (below : List Frame) (s : State) (Q : Option Value → Heap → List Loc → Prop) (C S : Nat) (t : State) : Prop :=
  ∃ s₂ o, Steps p.tables e below t s₂ ∧ s₂.status = .running ∧ Ended s₂ below o ∧ ∃ v L, o = .returned v ∧ Q v s₂.heap L ∧ FrameEnd s o s₂ L C S
theorem own_st {t t' : State} (k : ∀ target, Steps p.tables e below t' target → Steps p.tables e below t target) (d : own_Gl p e below s Q C S t') : own_Gl p e below s Q C S t := by
  obtain ⟨s₂, o, h1, h2⟩ := d
  exact ⟨s₂, o, k _ h1, h2⟩
theorem own_tr {t t' : State} (k : Steps p.tables e below t t') (d : own_Gl p e below s Q C S t') : own_Gl p e below s Q C S t := own_st (fun _ h => k.trans h) d
theorem own_cast {g g' : JFrame} (q : g = g') (d : own_Gl p e below s Q C S (T.setTop g')) : own_Gl p e below s Q C S (T.setTop g) := q ▸ d
theorem own_ret (X : Stand p l e R s m args below meth c T locs cells slots) (hlk : meth.locks = false) {v : Option Value} {t : State} (hv : meth.sig.returnType = none → v = none) (eT : T.heap = h) (hq : Q v h locs) (hc : cells ≤ C) (hs : slots ≤ S)
    (k : ∀ fs, (∀ (f : JFrame) (acts : List Action), f.method = m → f.locked = none → f.entered = [] → (doReturn e (T.setTop f) acts v).1 = T.setFrames fs) → Steps p.tables e below t (T.setFrames fs)) : own_Gl p e below s Q C S t := by
  obtain ⟨fs, hr, hrun, hended, hW, hsame⟩ := X.leave hv hlk
  exact ⟨_, _, k fs hr, hrun, hended, v, locs, rfl, by show Q v T.heap locs; rw [eT]; exact hq, ⟨_, rfl⟩, hW, hsame.mono hc hs⟩
theorem own_retI (X : Stand p l e R s m args below meth c T locs cells slots) (hx : p.tables.exec = Jvm.exec) (hlk : meth.locks = false) {pc : Nat} {Ls : Array Slot} {z : Int32} {rest : List Value} (hret : meth.sig.returnType = some .int) (hd : decode c.code pc = .ok (.ireturn, 1)) (eT : T.heap = h) (hq : Q (some (.int z)) h locs) (hc : cells ≤ C) (hs : slots ≤ S) :
    own_Gl p e below s Q C S (T.setTop (mkF m pc Ls (.int z :: rest))) :=
  own_ret X hlk (fun q => by rw [hret] at q; cases q) eT hq hc hs (fun _ hr => retOut X hx hret rfl (Or.inl ⟨rfl, Or.inl rfl, _, rfl⟩) hd hr)
theorem own_retN (X : Stand p l e R s m args below meth c T locs cells slots) (hx : p.tables.exec = Jvm.exec) (hlk : meth.locks = false) {pc : Nat} {Ls : Array Slot} {z : Int32} {t : FieldType} {rest : List Value} (hret : meth.sig.returnType = some t) (ht : t = .boolean ∨ t = .byte ∨ t = .char ∨ t = .short) (hd : decode c.code pc = .ok (.ireturn, 1)) (eT : T.heap = h) (hq : Q (some (.int (nar t z))) h locs) (hc : cells ≤ C) (hs : slots ≤ S) :
    own_Gl p e below s Q C S (T.setTop (mkF m pc Ls (.int z :: rest))) :=
  own_ret X hlk (fun q => by rw [hret] at q; cases q) eT hq hc hs (fun _ hr => retN X hx hret ht hd hr)
theorem own_retJ (X : Stand p l e R s m args below meth c T locs cells slots) (hx : p.tables.exec = Jvm.exec) (hlk : meth.locks = false) {pc : Nat} {Ls : Array Slot} {z : Int64} {rest : List Value} (hret : meth.sig.returnType = some .long) (hd : decode c.code pc = .ok (.lreturn, 1)) (eT : T.heap = h) (hq : Q (some (.long z)) h locs) (hc : cells ≤ C) (hs : slots ≤ S) :
    own_Gl p e below s Q C S (T.setTop (mkF m pc Ls (.long z :: rest))) :=
  own_ret X hlk (fun q => by rw [hret] at q; cases q) eT hq hc hs (fun _ hr => retOut X hx hret rfl (Or.inr (Or.inl ⟨rfl, rfl, _, rfl⟩)) hd hr)
theorem own_retA (X : Stand p l e R s m args below meth c T locs cells slots) (hx : p.tables.exec = Jvm.exec) (hlk : meth.locks = false) {pc : Nat} {Ls : Array Slot} {w : Value} {t : FieldType} {rest : List Value} (hret : meth.sig.returnType = some t) (ht : t.isReference = true) (hw : w.isRef = true) (hn : narrow t w = w) (hd : decode c.code pc = .ok (.areturn, 1)) (eT : T.heap = h) (hq : Q (some w) h locs) (hc : cells ≤ C) (hs : slots ≤ S) :
    own_Gl p e below s Q C S (T.setTop (mkF m pc Ls (w :: rest))) :=
  own_ret X hlk (fun q => by rw [hret] at q; cases q) eT hq hc hs (fun _ hr => retOut X hx hret hn (Or.inr (Or.inr (Or.inr (Or.inr ⟨rfl, ht, hw⟩)))) hd hr)
theorem own_retV (X : Stand p l e R s m args below meth c T locs cells slots) (hx : p.tables.exec = Jvm.exec) (hlk : meth.locks = false) {pc : Nat} {Ls : Array Slot} (hret : meth.sig.returnType = none) (hd : decode c.code pc = .ok (.return_, 1)) (eT : T.heap = h) (hq : Q none h locs) (hc : cells ≤ C) (hs : slots ≤ S) :
    own_Gl p e below s Q C S (T.setTop (mkF m pc Ls [])) :=
  own_ret X hlk (fun _ => rfl) eT hq hc hs (fun _ hr => X.returnOut hx hret hd hr)
end OwnKit

set_option maxRecDepth 65536
set_option maxHeartbeats 40000000
abbrev oT (a0 : Array Value) (Z : State) : Prop := ∀ d ∈ tables_1, d.before a0 Z = true
theorem oW {Z : State} {a0 : Array Value} (hw : oT a0 Z) (i : Nat) {d : Jvm.Cond} (h : tables_1[i]? = some d) : d.before a0 Z = true := hw _ (List.mem_of_getElem? h)
abbrev oMet (l : Launch) (y : MethodName) (bytes : ByteArray) (maxL : Nat) (ret : Option FieldType) (ws : List Jvm.Cond) (rm : Room) (A : Array Value) (Z : State) (h0 : Heap) (Q : Option Value → Heap → List Loc → Prop) : Prop :=
  MetFree l y (head1 (Jvm.Cond.code y bytes maxL ret :: ws) rm) (fun xa xU => xa = A ∧ Z.Warmed39 xU.vm ∧ xU.heap = h0) (fun _ _ _ _ _ => True) (fun _ xU xo xV => ∃ v L, xo = .returned v ∧ Q v xV.heap L ∧ FrameEnd xU xo xV L rm.cells rm.slots)
theorem oB {l : Launch} {y : MethodName} {bytes : ByteArray} {maxL : Nat} {ret : Option FieldType} {ws : List Jvm.Cond} {rm : Room} {A : Array Value} {Z : State} {h0 : Heap} {Q : Option Value → Heap → List Loc → Prop} {f : MethodId → JFrame} (n0 : Nat) (own : String) (ho : y.cls = own) (hp : plainFor y = true) (ef : ∀ m, entryFrame m A maxL = f m)
    (k : ∀ (p : Program) (e : Env) (s : State) (m : MethodId) (below : List Frame) (meth : Method) (c : Code) (s₁ : State), Z.Warmed39 s.vm → p.tables.exec = Jvm.exec → c.code = bytes → meth.locks = false → meth.sig.returnType = ret → c.maxLocals = maxL → s.vm.findClass own = some m.cls → meth.name = y.name → Stand p l e rm s m A below meth c s₁ [] 0 0 → s₁.heap = h0 → Fr n0 [] → own_Gl p e below s Q rm.cells rm.slots (s₁.setTop (f m))) : oMet l y bytes maxL ret ws rm A Z h0 Q := by
  refine MetFree.of_bodySF hp hisR ?_
  intro p e s m args below meth c s₁ Bd hml hP hK
  obtain ⟨rfl, hZ, hh⟩ := hP
  have d := k p e s m below meth c s₁ hZ Bd.exec Bd.bytes Bd.notSynchronized Bd.returns hml (ho ▸ findClass_of_methodNamed Bd.named) (name_of_methodNamed Bd.named Bd.method).1 (Stand.of_body Bd) (by rw [← hh, Bd.state]; rfl) (Fr.nil _)
  rw [← ef] at d
  exact d
abbrev oM0 : MethodName := ⟨"com/example/assayline/assayline/core/MessageIndex", "<init>", "()V"⟩
abbrev oM1 : MethodName := ⟨"com/example/assayline/assayline/core/MessageIndex", "first", "(I)I"⟩
abbrev oM2 : MethodName := ⟨"com/example/assayline/assayline/core/MessageIndex", "next", "(I)I"⟩
abbrev oM3 : MethodName := ⟨"com/example/assayline/assayline/core/MessageIndex", "place", "(IJ)V"⟩
abbrev oM4 : MethodName := ⟨"com/example/assayline/assayline/core/MessageIndex", "rebuild", "(IJ)V"⟩
abbrev oM5 : MethodName := ⟨"com/example/assayline/assayline/core/MessageIndex", "add", "(IJ)V"⟩
abbrev oM6 : MethodName := ⟨"java/lang/Number", "<init>", "()V"⟩
abbrev oM7 : MethodName := ⟨"java/lang/Long", "<init>", "(J)V"⟩
abbrev oM8 : MethodName := ⟨"java/lang/Long", "valueOf", "(J)Ljava/lang/Long;"⟩
abbrev oM9 : MethodName := ⟨"java/util/AbstractCollection", "<init>", "()V"⟩
abbrev oM10 : MethodName := ⟨"java/util/AbstractList", "<init>", "()V"⟩
abbrev oM11 : MethodName := ⟨"java/util/ArrayList", "<init>", "()V"⟩
abbrev oM12 : MethodName := ⟨"java/lang/Math", "max", "(II)I"⟩
abbrev oM13 : MethodName := ⟨"java/util/ArrayList", "grow", "(I)[Ljava/lang/Object;"⟩
abbrev oM14 : MethodName := ⟨"java/util/ArrayList", "grow", "()[Ljava/lang/Object;"⟩
abbrev oM15 : MethodName := ⟨"java/util/ArrayList", "add", "(Ljava/lang/Object;[Ljava/lang/Object;I)V"⟩
abbrev oM16 : MethodName := ⟨"java/util/ArrayList", "add", "(Ljava/lang/Object;)Z"⟩
abbrev oM17 : MethodName := ⟨"com/example/assayline/assayline/core/MessageIndex", "offsetsOf", "(I)Ljava/util/List;"⟩
abbrev oM18 : MethodName := ⟨"java/util/List", "add", "(Ljava/lang/Object;)Z"⟩
abbrev oM19 : MethodName := ⟨"java/util/ArrayList", "size", "()I"⟩
abbrev oM20 : MethodName := ⟨"jdk/internal/util/Preconditions", "checkIndex", "(IILjava/util/function/BiFunction;)I"⟩
abbrev oM21 : MethodName := ⟨"java/util/Objects", "checkIndex", "(II)I"⟩
abbrev oM22 : MethodName := ⟨"java/util/ArrayList", "elementData", "(I)Ljava/lang/Object;"⟩
abbrev oM23 : MethodName := ⟨"java/util/ArrayList", "get", "(I)Ljava/lang/Object;"⟩
abbrev oM24 : MethodName := ⟨"java/lang/Long", "longValue", "()J"⟩
abbrev oM25 : MethodName := ⟨"com/example/assayline/assayline/core/MessageIndexAddPinLaw", "bitOf", "(Ljava/util/List;IJ)I"⟩
abbrev oM26 : MethodName := ⟨"java/util/List", "size", "()I"⟩
abbrev oM27 : MethodName := ⟨"java/util/List", "get", "(I)Ljava/lang/Object;"⟩
abbrev oM28 : MethodName := ⟨"com/example/assayline/assayline/core/MessageIndexAddPinLaw", "bit", "(II)I"⟩
abbrev oM29 : MethodName := ⟨"com/example/assayline/assayline/core/MessageIndexAddPinLaw", "hashOf", "(IIII)I"⟩

theorem own_selpriv {Z s : State} {a0 args : Array Value} {y : MethodName} {n : Nat} (hZ : Z.Warmed39 s.vm) (wi : (Jvm.Cond.instantiable y.cls n).before a0 Z = true) (wp : (Jvm.Cond.privateMethod y).before a0 Z = true) (wm : (Jvm.Cond.instanceMethod y).before a0 Z = true) (hy : y.cls ≠ "java/lang/invoke/MethodHandle" ∧ y.cls ≠ "java/lang/invoke/VarHandle") : (Jvm.Cond.selects y.cls y y).before args s = true := by
  obtain ⟨c, k, h1, h2, -, h4, -⟩ := Cond.instantiable_spec (mvT (args := args) hZ wi)
  simp only [Bool.or_eq_false_iff] at h4
  exact selects_self_of_private h1 h2 h4.1 (Cond.privateMethod_at (mvP (args := args) hZ wp)) (mvT hZ wm) hy


/-- the array's list by its function -/
def own_fl (n : Nat) (f : Nat → Int32) : List Value := (List.range n).map fun i => Value.int (f i)
theorem own_fl_len (n : Nat) (f : Nat → Int32) : (own_fl n f).length = n := by simp [own_fl]
theorem own_fl_get (n : Nat) (f : Nat → Int32) (i : Nat) (d : Value) (h : i < n) : (own_fl n f).getD i d = Value.int (f i) := by
  simp [own_fl, List.getD, h]
theorem own_fl_set (n : Nat) (f : Nat → Int32) (i : Nat) (v : Int32) : (own_fl n f).set i (Value.int v) = own_fl n (fun j => if j = i then v else f j) := by
  apply List.ext_getElem
  · simp [own_fl]
  · intro j h1 h2
    simp only [own_fl, List.getElem_set, List.getElem_map, List.getElem_range]
    by_cases q : i = j
    · subst q; simp
    · have q2 : ¬ j = i := fun z => q z.symm
      simp [q, q2]
theorem own_nat {i : Int32} (h : ¬ i < 0) : (i.toNatClampNeg : Int) = i.toInt := (nat_of h).symm
theorem own_natlt {i z : Int32} (h0 : ¬ i < 0) (h : i < z) : i.toNatClampNeg < z.toNatClampNeg := by
  have e0 : (0 : Int32).toInt = 0 := by decide
  have h1 := h; have h2 := h0
  rw [Int32.lt_iff_toInt_lt] at h1 h2
  have hz : ¬ z < 0 := by rw [Int32.lt_iff_toInt_lt]; omega
  have q1 := own_nat h0; have q2 := own_nat hz
  omega


def own_cnt (f : Nat → Nat) : Nat → Nat
  | 0 => 0
  | k + 1 => own_cnt f k + (if f k = 0 then 0 else 1)
theorem own_cnt_succ (f : Nat → Nat) (k : Nat) : own_cnt f (k + 1) = own_cnt f k + (if f k = 0 then 0 else 1) := rfl
theorem own_cnt_free (f : Nat → Nat) (k : Nat) (h : own_cnt f k < k) : ∃ p, p < k ∧ f p = 0 := by
  induction k with
  | zero => omega
  | succ k ih =>
    rw [own_cnt_succ] at h
    by_cases q : f k = 0
    · exact ⟨k, by omega, q⟩
    · rw [if_neg q] at h
      obtain ⟨p, h1, h2⟩ := ih (by omega)
      exact ⟨p, by omega, h2⟩
theorem own_cnt_upd (f : Nat → Nat) (i j k : Nat) (hi : f i = 0) (hj : j ≠ 0) : own_cnt (fun p => if p = i then j else f p) k = own_cnt f k + (if i < k then 1 else 0) := by
  induction k with
  | zero => simp [own_cnt]
  | succ k ih =>
    rw [own_cnt_succ, own_cnt_succ, ih]
    by_cases q : k = i
    · subst q; simp [hi, hj]
    · by_cases q2 : i < k
      · have q3 : i < k + 1 := by omega
        simp [q, q2, q3]; omega
      · have q3 : ¬ i < k + 1 := by omega
        simp [q, q2, q3]
def own_ok (q : Nat → Nat) (Z : Nat) (f : Nat → Nat) (S : Nat → Prop) (n : Nat) : Prop :=
  (∀ p, f p ≤ 9) ∧ (∀ p, f p ≠ 0 → S (f p) ∧ p < Z) ∧ (∀ j, S j → ∃ p, f p = j) ∧ (∀ j, S j → 1 ≤ j ∧ j ≤ 9) ∧ (∀ p r, f p ≠ 0 → f p = f r → p = r) ∧ (∀ p, f p ≠ 0 → ∃ t, p = (q (f p) + t) % Z ∧ ∀ u, u ≤ t → f ((q (f p) + u) % Z) ≠ 0) ∧ (own_cnt f Z = n)
theorem own_ok.le {q : Nat → Nat} {Z : Nat} {f : Nat → Nat} {S : Nat → Prop} {n : Nat} (h : own_ok q Z f S n) : ∀ p, f p ≤ 9 := h.1
theorem own_ok.out {q : Nat → Nat} {Z : Nat} {f : Nat → Nat} {S : Nat → Prop} {n : Nat} (h : own_ok q Z f S n) : ∀ p, f p ≠ 0 → S (f p) ∧ p < Z := h.2.1
theorem own_ok.all {q : Nat → Nat} {Z : Nat} {f : Nat → Nat} {S : Nat → Prop} {n : Nat} (h : own_ok q Z f S n) : ∀ j, S j → ∃ p, f p = j := h.2.2.1
theorem own_ok.pos {q : Nat → Nat} {Z : Nat} {f : Nat → Nat} {S : Nat → Prop} {n : Nat} (h : own_ok q Z f S n) : ∀ j, S j → 1 ≤ j ∧ j ≤ 9 := h.2.2.2.1
theorem own_ok.inj {q : Nat → Nat} {Z : Nat} {f : Nat → Nat} {S : Nat → Prop} {n : Nat} (h : own_ok q Z f S n) : ∀ p r, f p ≠ 0 → f p = f r → p = r := h.2.2.2.2.1
theorem own_ok.path {q : Nat → Nat} {Z : Nat} {f : Nat → Nat} {S : Nat → Prop} {n : Nat} (h : own_ok q Z f S n) : ∀ p, f p ≠ 0 → ∃ t, p = (q (f p) + t) % Z ∧ ∀ u, u ≤ t → f ((q (f p) + u) % Z) ≠ 0 := h.2.2.2.2.2.1
theorem own_ok.cnt {q : Nat → Nat} {Z : Nat} {f : Nat → Nat} {S : Nat → Prop} {n : Nat} (h : own_ok q Z f S n) : own_cnt f Z = n := h.2.2.2.2.2.2
theorem own_ok_new (q : Nat → Nat) (Z : Nat) : own_ok q Z (fun _ => 0) (fun _ => False) 0 :=
  ⟨fun _ => Nat.zero_le _, fun _ h => absurd rfl h, fun _ h => h.elim, fun _ h => h.elim, fun _ _ h => absurd rfl h, fun _ h => absurd rfl h, by
    induction Z with
    | zero => rfl
    | succ k ih => rw [own_cnt_succ, ih]; rfl⟩
theorem own_ok_iff {q : Nat → Nat} {Z : Nat} {f : Nat → Nat} {S S' : Nat → Prop} {n n' : Nat} (h : own_ok q Z f S n) (hs : ∀ j, S j ↔ S' j) (hn : n = n') : own_ok q Z f S' n' :=
  ⟨h.le, fun p hp => ⟨(hs _).mp (h.out p hp).1, (h.out p hp).2⟩, fun j hj => h.all j ((hs j).mpr hj), fun j hj => h.pos j ((hs j).mpr hj), h.inj, h.path, hn ▸ h.cnt⟩
theorem own_min (P : Nat → Prop) (dp : ∀ u, Decidable (P u)) : ∀ t0, P t0 → ∃ t, t ≤ t0 ∧ P t ∧ ∀ u, u < t → ¬ P u := by
  intro t0
  induction t0 using Nat.strongRecOn with
  | _ t0 ih =>
    intro h
    by_cases q : ∃ u, u < t0 ∧ P u
    · obtain ⟨u, h1, h2⟩ := q
      obtain ⟨t, g1, g2⟩ := ih u h1 h2
      exact ⟨t, by omega, g2⟩
    · exact ⟨t0, Nat.le_refl _, h, fun u hu hp => q ⟨u, hu, hp⟩⟩
theorem own_gap {f : Nat → Nat} {Z n : Nat} (hc : own_cnt f Z = n) (hn : n < Z) (a : Nat) (ha : a < Z) : ∃ t, t < Z ∧ f ((a + t) % Z) = 0 ∧ ∀ u, u < t → f ((a + u) % Z) ≠ 0 := by
  obtain ⟨p, h1, h2⟩ := own_cnt_free f Z (by omega)
  have h3 : ∃ t, t < Z ∧ f ((a + t) % Z) = 0 := by
    by_cases q : a ≤ p
    · refine ⟨p - a, by omega, ?_⟩
      rw [show a + (p - a) = p by omega, Nat.mod_eq_of_lt h1]; exact h2
    · refine ⟨p + Z - a, by omega, ?_⟩
      rw [show a + (p + Z - a) = p + Z by omega, Nat.add_mod_right, Nat.mod_eq_of_lt h1]; exact h2
  obtain ⟨t0, g1, g2⟩ := h3
  obtain ⟨t, k1, k2, k3⟩ := own_min (fun t => f ((a + t) % Z) = 0) (fun _ => inferInstance) t0 g2
  exact ⟨t, by omega, k2, k3⟩
theorem own_put {q : Nat → Nat} {Z : Nat} {f : Nat → Nat} {S : Nat → Prop} {n : Nat} (h : own_ok q Z f S n) (hZ : 0 < Z) (j t : Nat) (h1 : f ((q j + t) % Z) = 0) (h2 : ∀ u, u < t → f ((q j + u) % Z) ≠ 0) (hS : ¬ S j) (hj : 1 ≤ j ∧ j ≤ 9) :
    own_ok q Z (fun p => if p = (q j + t) % Z then j else f p) (fun i => i = j ∨ S i) (n + 1) := by
  have hl : (q j + t) % Z < Z := Nat.mod_lt _ hZ
  have hj0 : j ≠ 0 := by omega
  have up : ∀ p, f p ≠ 0 → (if p = (q j + t) % Z then j else f p) ≠ 0 := by
    intro p hp
    by_cases e : p = (q j + t) % Z
    · rw [if_pos e]; exact hj0
    · rw [if_neg e]; exact hp
  refine ⟨?_, ?_, ?_, ?_, ?_, ?_, ?_⟩
  · intro p
    show (if p = (q j + t) % Z then j else f p) ≤ 9
    split
    · exact hj.2
    · exact h.le p
  · intro p
    show (if p = (q j + t) % Z then j else f p) ≠ 0 → _
    by_cases e : p = (q j + t) % Z
    · intro _; exact ⟨Or.inl (if_pos e), e ▸ hl⟩
    · rw [if_neg e]; intro hp; exact ⟨Or.inr (by show S (if p = (q j + t) % Z then j else f p); rw [if_neg e]; exact (h.out p hp).1), (h.out p hp).2⟩
  · intro i hi
    rcases hi with rfl | hi
    · exact ⟨_, if_pos rfl⟩
    · obtain ⟨p, hp⟩ := h.all i hi
      have hi0 := (h.pos i hi).1
      have e : ¬ p = (q j + t) % Z := fun e => by rw [e, h1] at hp; omega
      exact ⟨p, (if_neg e).trans hp⟩
  · intro i hi
    rcases hi with rfl | hi
    · exact hj
    · exact h.pos i hi
  · intro p r
    show (if p = (q j + t) % Z then j else f p) ≠ 0 → (if p = (q j + t) % Z then j else f p) = (if r = (q j + t) % Z then j else f r) → p = r
    by_cases e : p = (q j + t) % Z
    · by_cases e2 : r = (q j + t) % Z
      · intro _ _; exact e.trans e2.symm
      · rw [if_pos e, if_neg e2]; intro _ k
        exact absurd (k ▸ (h.out r (by rw [← k]; exact hj0)).1) hS
    · by_cases e2 : r = (q j + t) % Z
      · rw [if_neg e, if_pos e2]; intro a k
        exact absurd (k ▸ (h.out p a).1) hS
      · rw [if_neg e, if_neg e2]; exact h.inj p r
  · intro p
    show (if p = (q j + t) % Z then j else f p) ≠ 0 → ∃ t', p = (q (if p = (q j + t) % Z then j else f p) + t') % Z ∧ ∀ u, u ≤ t' → (if ((q (if p = (q j + t) % Z then j else f p)) + u) % Z = (q j + t) % Z then j else f (((q (if p = (q j + t) % Z then j else f p)) + u) % Z)) ≠ 0
    by_cases e : p = (q j + t) % Z
    · rw [if_pos e]
      intro _
      refine ⟨t, e, fun u hu => ?_⟩
      by_cases e3 : u = t
      · subst e3; rw [if_pos rfl]; exact hj0
      · exact up _ (h2 u (by omega))
    · rw [if_neg e]
      intro hp
      obtain ⟨t', g1, g2⟩ := h.path p hp
      exact ⟨t', g1, fun u hu => up _ (g2 u hu)⟩
  · rw [own_cnt_upd f _ j Z h1 hj0, h.cnt, if_pos hl]
def own_ds (hs : Nat → Int32) (h : Int32) (f : Nat → Nat) (Z a s : Nat) : List Nat := ((List.range s).map (fun u => f ((a + u) % Z))).filter (fun j => hs j == h)
theorem own_ds_yes (hs : Nat → Int32) (h : Int32) (f : Nat → Nat) (Z a s : Nat) (e : hs (f ((a + s) % Z)) = h) : own_ds hs h f Z a (s + 1) = own_ds hs h f Z a s ++ [f ((a + s) % Z)] := by
  simp [own_ds, List.range_succ, e]
theorem own_ds_no (hs : Nat → Int32) (h : Int32) (f : Nat → Nat) (Z a s : Nat) (e : ¬ hs (f ((a + s) % Z)) = h) : own_ds hs h f Z a (s + 1) = own_ds hs h f Z a s := by
  simp [own_ds, List.range_succ, e]
theorem own_ds_nodup {q : Nat → Nat} {Z : Nat} {f : Nat → Nat} {S : Nat → Prop} {n : Nat} (k : own_ok q Z f S n) (hs : Nat → Int32) (h : Int32) (a s : Nat) (hsZ : s ≤ Z) (hne : ∀ u, u < s → f ((a + u) % Z) ≠ 0) : (own_ds hs h f Z a s).Nodup := by
  unfold own_ds
  apply List.Pairwise.filter
  rw [List.pairwise_map]
  refine List.Pairwise.imp_of_mem ?_ (List.pairwise_lt_range (n := s))
  intro x y hx hy hlt he
  rw [List.mem_range] at hx hy
  have e := k.inj _ _ (hne x hx) he
  have q1 := Nat.mod_add_div (a + x) Z; have q2 := Nat.mod_add_div (a + y) Z
  rw [e] at q1
  have m : (a + y) / Z = (a + x) / Z ∨ (a + y) / Z ≥ (a + x) / Z + 1 := by
    have := Nat.div_le_div_right (c := Z) (show a + x ≤ a + y by omega); omega
  rcases m with m | m
  · rw [m] at q2; omega
  · have := Nat.mul_le_mul_left Z m
    rw [Nat.mul_add, Nat.mul_one] at this
    omega
theorem own_ds_in {q : Nat → Nat} {Z : Nat} {f : Nat → Nat} {S : Nat → Prop} {n : Nat} (k : own_ok q Z f S n) (hs : Nat → Int32) (h : Int32) (a s : Nat) (hne : ∀ u, u < s → f ((a + u) % Z) ≠ 0) : ∀ j ∈ own_ds hs h f Z a s, S j ∧ hs j = h := by
  intro j hj
  rw [own_ds, List.mem_filter, List.mem_map] at hj
  obtain ⟨⟨u, h1, h2⟩, h3⟩ := hj
  rw [List.mem_range] at h1
  exact ⟨h2 ▸ (k.out _ (hne u h1)).1, by simpa using h3⟩
theorem own_ds_mem {q : Nat → Nat} {Z : Nat} {f : Nat → Nat} {S : Nat → Prop} {n : Nat} (k : own_ok q Z f S n) (hs : Nat → Int32) (h : Int32) (a T : Nat) (hq : ∀ j, hs j = h → q j = a) (h0 : f ((a + T) % Z) = 0) (hne : ∀ u, u < T → f ((a + u) % Z) ≠ 0) (j : Nat) : j ∈ own_ds hs h f Z a T ↔ S j ∧ hs j = h := by
  constructor
  · exact own_ds_in k hs h a T hne j
  · rintro ⟨h1, h2⟩
    obtain ⟨p, rfl⟩ := k.all j h1
    have hp : f p ≠ 0 := by have := (k.pos _ h1).1; omega
    obtain ⟨t, g1, g2⟩ := k.path p hp
    rw [hq _ h2] at g1 g2
    have ht : t < T := Nat.lt_of_not_le fun z => g2 T z h0
    rw [own_ds, List.mem_filter, List.mem_map]
    exact ⟨⟨t, List.mem_range.mpr ht, by rw [← g1]⟩, by simpa using h2⟩
theorem own_ds_len {q : Nat → Nat} {Z : Nat} {f : Nat → Nat} {S : Nat → Prop} {n : Nat} (k : own_ok q Z f S n) (hs : Nat → Int32) (h : Int32) (a s : Nat) (hsZ : s ≤ Z) (hne : ∀ u, u < s → f ((a + u) % Z) ≠ 0) : (own_ds hs h f Z a s).length ≤ 9 := by
  have := (own_ds_nodup k hs h a s hsZ hne).length_le_of_subset (l₂ := [1, 2, 3, 4, 5, 6, 7, 8, 9]) (fun j hj => by
    have h1 := k.pos _ (own_ds_in k hs h a s hne j hj).1
    obtain ⟨h2, h3⟩ := h1
    have : j = 1 ∨ j = 2 ∨ j = 3 ∨ j = 4 ∨ j = 5 ∨ j = 6 ∨ j = 7 ∨ j = 8 ∨ j = 9 := by omega
    rcases this with rfl | rfl | rfl | rfl | rfl | rfl | rfl | rfl | rfl <;> simp)
  simpa using this


/-- the bits of the marks 1 to 9 -/
def own_bt (d : Nat) : Int32 := (1 : Int32) <<< (Int32.ofNat (d - 1))
def own_B (ds : List Nat) (i : Nat) : Int32 := if i < ds.length then own_bt (ds.getD i 0) else 0
def own_es (P : Nat → Bool) : List Nat := [1, 2, 3, 4, 5, 6, 7, 8, 9].filter P
def own_bit (x i : Int32) : Int32 := ((x.toUInt32 >>> (i &&& 31).toUInt32).toInt32) &&& (1 : Int32)
def own_ec (e : Int32) : Int32 := ((((((((own_bit e 0 + own_bit e 1) + own_bit e 2) + own_bit e 3) + own_bit e 4) + own_bit e 5) + own_bit e 6) + own_bit e 7) + own_bit e 8)
theorem own_orl (ds : List Nat) (h : ds.length ≤ 9) : ((((((((own_B ds 0 ||| own_B ds 1) ||| own_B ds 2) ||| own_B ds 3) ||| own_B ds 4) ||| own_B ds 5) ||| own_B ds 6) ||| own_B ds 7) ||| own_B ds 8) = ds.foldr (fun d a => own_bt d ||| a) 0 := by
  match ds, h with
  | [], _ => rfl
  | [a], _ => simp [own_B]
  | [a, b], _ => simp [own_B, Int32.or_assoc]
  | [a, b, c], _ => simp [own_B, Int32.or_assoc]
  | [a, b, c, d], _ => simp [own_B, Int32.or_assoc]
  | [a, b, c, d, e], _ => simp [own_B, Int32.or_assoc]
  | [a, b, c, d, e, f], _ => simp [own_B, Int32.or_assoc]
  | [a, b, c, d, e, f, g], _ => simp [own_B, Int32.or_assoc]
  | [a, b, c, d, e, f, g, k], _ => simp [own_B, Int32.or_assoc]
  | [a, b, c, d, e, f, g, k, l], _ => simp [own_B, Int32.or_assoc]
  | _ :: _ :: _ :: _ :: _ :: _ :: _ :: _ :: _ :: _ :: _, h => simp at h
theorem own_suml (ds : List Nat) (h : ds.length ≤ 9) : ((((((((own_B ds 0 + own_B ds 1) + own_B ds 2) + own_B ds 3) + own_B ds 4) + own_B ds 5) + own_B ds 6) + own_B ds 7) + own_B ds 8) = ds.foldr (fun d a => own_bt d + a) 0 := by
  match ds, h with
  | [], _ => rfl
  | [a], _ => simp [own_B]
  | [a, b], _ => simp [own_B, Int32.add_assoc]
  | [a, b, c], _ => simp [own_B, Int32.add_assoc]
  | [a, b, c, d], _ => simp [own_B, Int32.add_assoc]
  | [a, b, c, d, e], _ => simp [own_B, Int32.add_assoc]
  | [a, b, c, d, e, f], _ => simp [own_B, Int32.add_assoc]
  | [a, b, c, d, e, f, g], _ => simp [own_B, Int32.add_assoc]
  | [a, b, c, d, e, f, g, k], _ => simp [own_B, Int32.add_assoc]
  | [a, b, c, d, e, f, g, k, l], _ => simp [own_B, Int32.add_assoc]
  | _ :: _ :: _ :: _ :: _ :: _ :: _ :: _ :: _ :: _ :: _, h => simp at h
def own_eb (v : Nat) (j : Nat) : Bool := (v >>> (j - 1)) % 2 == 1
def own_chk (v : Nat) : Bool := let es := own_es (own_eb v); let e := Int32.ofNat v; decide (Int32.ofNat es.length = own_ec e) && decide (es.foldr (fun d a => own_bt d ||| a) 0 = e) && decide (es.foldr (fun d a => own_bt d + a) 0 = e)
theorem own_chk_all : ∀ v : Fin 512, own_chk v.1 = true := by decide +kernel
theorem own_fin (ds : List Nat) (hd : ds.Nodup) (v : Nat) (hv : v < 512) (hm : ∀ j, j ∈ ds ↔ (1 ≤ j ∧ j ≤ 9) ∧ own_eb v j = true) :
    Int32.ofNat ds.length = own_ec (Int32.ofNat v) ∧ ((((((((own_B ds 0 ||| own_B ds 1) ||| own_B ds 2) ||| own_B ds 3) ||| own_B ds 4) ||| own_B ds 5) ||| own_B ds 6) ||| own_B ds 7) ||| own_B ds 8) = Int32.ofNat v ∧ ((((((((own_B ds 0 + own_B ds 1) + own_B ds 2) + own_B ds 3) + own_B ds 4) + own_B ds 5) + own_B ds 6) + own_B ds 7) + own_B ds 8) = Int32.ofNat v := by
  have he : (own_es (own_eb v)).Nodup := List.Pairwise.filter _ (by decide)
  have hp : ds.Perm (own_es (own_eb v)) := (List.perm_ext_iff_of_nodup hd he).mpr fun j => by
    rw [hm j, own_es, List.mem_filter]
    constructor
    · rintro ⟨⟨h1, h2⟩, h3⟩
      refine ⟨?_, h3⟩
      have : j = 1 ∨ j = 2 ∨ j = 3 ∨ j = 4 ∨ j = 5 ∨ j = 6 ∨ j = 7 ∨ j = 8 ∨ j = 9 := by omega
      rcases this with rfl | rfl | rfl | rfl | rfl | rfl | rfl | rfl | rfl <;> simp
    · rintro ⟨h1, h3⟩
      refine ⟨?_, h3⟩
      simp only [List.mem_cons, List.not_mem_nil, or_false] at h1
      omega
  have hl : ds.length ≤ 9 := by
    rw [hp.length_eq]; exact Nat.le_trans (List.length_filter_le _ _) (by decide)
  have hk := own_chk_all ⟨v, hv⟩
  simp only [own_chk, Bool.and_eq_true, decide_eq_true_eq] at hk
  refine ⟨by rw [hp.length_eq]; exact hk.1.1, ?_, ?_⟩
  · rw [own_orl ds hl, hp.foldr_eq' (fun x _ y _ z => by rw [← Int32.or_assoc, ← Int32.or_assoc, Int32.or_comm (own_bt y)])]; exact hk.1.2
  · rw [own_suml ds hl, hp.foldr_eq' (fun x _ y _ z => by rw [← Int32.add_assoc, ← Int32.add_assoc, Int32.add_comm (own_bt y)])]; exact hk.2


def own_fi (x z : Int32) : Int32 := (((x * (-1640531527 : Int32)).toUInt32 >>> ((1 : Int32) &&& 31).toUInt32).toInt32) % z
theorem own_fi_in (x z : Int32) (hz : z = (16 : Int32) ∨ z = (32 : Int32)) : ¬ own_fi x z < 0 ∧ own_fi x z < z := by
  unfold own_fi
  have u := c_iushr (x * (-1640531527 : Int32)) (1 : Int32) 1 (by decide) (by decide)
  have r := rng32 (x * (-1640531527 : Int32))
  generalize (((x * (-1640531527 : Int32)).toUInt32 >>> ((1 : Int32) &&& 31).toUInt32).toInt32) = w at *
  have eN : z.toInt = 16 ∨ z.toInt = 32 := by rcases hz with rfl | rfl <;> decide
  have q := (c_iremV w z).1 (by omega) (by omega)
  have e0 : (0 : Int32).toInt = 0 := by decide
  rw [Int32.lt_iff_toInt_lt, Int32.lt_iff_toInt_lt]
  omega
def own_nxt (i z : Int32) : Int32 := (i + (1 : Int32)) % z
theorem own_nxt_in (i z : Int32) (hz : z = (16 : Int32) ∨ z = (32 : Int32)) (h : ¬ i < 0 ∧ i < z) : (¬ own_nxt i z < 0 ∧ own_nxt i z < z) ∧ (own_nxt i z).toNatClampNeg = (i.toNatClampNeg + 1) % z.toNatClampNeg := by
  unfold own_nxt
  have eN : (z.toInt = 16 ∧ z.toNatClampNeg = 16) ∨ (z.toInt = 32 ∧ z.toNatClampNeg = 32) := by rcases hz with rfl | rfl <;> decide
  have a := c_iadd i (1 : Int32)
  have e0 : (0 : Int32).toInt = 0 := by decide
  have e1 : (1 : Int32).toInt = 1 := by decide
  have q0 := own_nat h.1
  have h1 := h.1; have h2 := h.2
  rw [Int32.lt_iff_toInt_lt] at h1 h2
  have r := rng32 (i + (1 : Int32))
  have q := (c_iremV (i + (1 : Int32)) z).1 (by omega) (by omega)
  have n0 : ¬ ((i + (1 : Int32)) % z) < 0 := by rw [Int32.lt_iff_toInt_lt]; omega
  have q2 := own_nat n0
  refine ⟨⟨n0, by rw [Int32.lt_iff_toInt_lt]; omega⟩, ?_⟩
  rcases eN with ⟨eN, eM⟩ | ⟨eN, eM⟩ <;> rw [eM] <;> rw [eN] at q <;> omega
theorem own_zpos {z : Int32} (hz : z = (16 : Int32) ∨ z = (32 : Int32)) : 0 < z.toNatClampNeg ∧ z.toNatClampNeg ≤ 32 ∧ 16 ≤ z.toNatClampNeg := by rcases hz with rfl | rfl <;> decide
theorem own_znz {z : Int32} (hz : z = (16 : Int32) ∨ z = (32 : Int32)) : z ≠ 0 := by rcases hz with rfl | rfl <;> decide
def own_fj (n : Nat) (f : Nat → Int64) : List Value := (List.range n).map fun i => Value.long (f i)
theorem own_fj_len (n : Nat) (f : Nat → Int64) : (own_fj n f).length = n := by simp [own_fj]
theorem own_fj_get (n : Nat) (f : Nat → Int64) (i : Nat) (d : Value) (h : i < n) : (own_fj n f).getD i d = Value.long (f i) := by
  simp [own_fj, List.getD, h]
theorem own_fj_set (n : Nat) (f : Nat → Int64) (i : Nat) (v : Int64) : (own_fj n f).set i (Value.long v) = own_fj n (fun j => if j = i then v else f j) := by
  apply List.ext_getElem
  · simp [own_fj]
  · intro j h1 h2
    simp only [own_fj, List.getElem_set, List.getElem_map, List.getElem_range]
    by_cases q : i = j
    · subst q; simp
    · have q2 : ¬ j = i := fun z => q z.symm
      simp [q, q2]
theorem own_up {α : Type} (F : Nat → α) (f : Nat → Nat) (i j : Nat) : (fun p => if p = i then F j else F (f p)) = fun p => F (if p = i then j else f p) := by
  funext p; by_cases q : p = i <;> simp [q]
/-- the array of the found ones -/
def own_rl (N : Nat) (rf : Nat → Addr) : List Value := (List.range 10).map fun i => if i < N then Value.ref (rf i) else Value.null
theorem own_rl_get (N : Nat) (rf : Nat → Addr) (i : Nat) (d : Value) (h : i < N) (h2 : N ≤ 10) : (own_rl N rf).getD i d = Value.ref (rf i) := by
  have h3 : i < 10 := by omega
  simp [own_rl, List.getD, h, h3]
theorem own_rl_set (N : Nat) (rf : Nat → Addr) (r : Addr) : (own_rl N rf).set N (Value.ref r) = own_rl (N + 1) (fun i => if i = N then r else rf i) := by
  apply List.ext_getElem
  · simp [own_rl]
  · intro j h1 h2
    simp only [own_rl, List.getElem_set, List.getElem_map, List.getElem_range]
    by_cases q : N = j
    · subst q; simp
    · have q2 : ¬ j = N := fun z => q z.symm
      by_cases q3 : j < N
      · have q4 : j < N + 1 := by omega
        simp [q, q2, q3, q4]
      · have q4 : ¬ j < N + 1 := by omega
        simp [q, q3, q4]
def own_ofs (b : Int64) (j : Nat) : Int64 := if j = 0 then 0 else b + Int64.ofNat j
def own_base (o : Int64) : Int64 := ((o &&& (576460752303423487 : Int64)) <<< ((4 : Int32) &&& 0x3f).toInt64)
theorem own_base_in (o : Int64) : 0 ≤ (own_base o).toInt ∧ (own_base o).toInt ≤ 9223372036854775792 ∧ (own_base o).toInt % 16 = 0 := by
  have m := c_maskL o (576460752303423487 : Int64) 59 (by decide) (by decide)
  have s := c_lshl (o &&& (576460752303423487 : Int64)) (4 : Int32) 4 (by decide)
  have r := rng64 (own_base o)
  unfold own_base at *
  generalize ((o &&& (576460752303423487 : Int64)) <<< ((4 : Int32) &&& 0x3f).toInt64) = w at *
  have m1 : 0 ≤ (o &&& (576460752303423487 : Int64)).toInt ∧ (o &&& (576460752303423487 : Int64)).toInt < 576460752303423488 := by rw [m]; omega
  generalize (o &&& (576460752303423487 : Int64)).toInt = y at *
  omega
theorem own_j9 {j : Nat} (h : j ≤ 9) : j = 0 ∨ j = 1 ∨ j = 2 ∨ j = 3 ∨ j = 4 ∨ j = 5 ∨ j = 6 ∨ j = 7 ∨ j = 8 ∨ j = 9 := by omega
theorem own_oj {j : Nat} (h : j ≤ 9) : (Int64.ofNat j).toInt = j := by
  rcases own_j9 h with rfl | rfl | rfl | rfl | rfl | rfl | rfl | rfl | rfl | rfl <;> decide
theorem own_ofs_ok (o : Int64) (j : Nat) (h : j ≤ 9) : (own_ofs (own_base o) j = 0 ↔ j = 0) ∧ own_ofs (own_base o) j < (9223372036854775807 : Int64) := by
  unfold own_ofs
  by_cases q : j = 0
  · rw [if_pos q]; exact ⟨⟨fun _ => q, fun _ => rfl⟩, by decide⟩
  · rw [if_neg q]
    have b := own_base_in o
    have e := own_oj h
    have a := c_ladd (own_base o) (Int64.ofNat j)
    have r := rng64 (own_base o + Int64.ofNat j)
    have e0 : (0 : Int64).toInt = 0 := by decide
    have e1 : (9223372036854775807 : Int64).toInt = 9223372036854775807 := by decide
    rw [e] at a
    refine ⟨⟨fun z => ?_, fun z => absurd z q⟩, ?_⟩
    · rw [z, e0] at a; omega
    · rw [Int64.lt_iff_toInt_lt]; omega
theorem own_dif (b : Int64) (j : Nat) (h : 1 ≤ j ∧ j ≤ 9) : (own_ofs b j - b) = Int64.ofNat j := by
  unfold own_ofs
  rw [if_neg (by omega), Int64.add_comm, Int64.add_sub_cancel]
theorem own_dif1 (j : Nat) (h : 1 ≤ j ∧ j ≤ 9) : ¬ Int64.ofNat j < (1 : Int64) ∧ ¬ (9 : Int64) < Int64.ofNat j ∧ ((1 : Int32) <<< ((Int64.ofNat j - (1 : Int64)).toInt32 &&& 31)) = own_bt j := by
  have : j = 1 ∨ j = 2 ∨ j = 3 ∨ j = 4 ∨ j = 5 ∨ j = 6 ∨ j = 7 ∨ j = 8 ∨ j = 9 := by omega
  rcases this with rfl | rfl | rfl | rfl | rfl | rfl | rfl | rfl | rfl <;> decide
theorem own_gne (h m : Int32) : ¬ (h ^^^ (m ||| (1 : Int32))) = h := by
  intro q
  have q2 : (m ||| (1 : Int32)) = 0 := by
    have := congrArg (fun x => h ^^^ x) q
    simp only [← Int32.xor_assoc, Int32.xor_self, Int32.zero_xor] at this
    exact this
  have q3 : (m ||| (1 : Int32)) &&& 1 = (1 : Int32) := by
    rw [← Int32.toBitVec_inj]
    simp only [Int32.toBitVec_and, Int32.toBitVec_or]
    apply BitVec.eq_of_getLsbD_eq
    intro i hi
    simp only [BitVec.getLsbD_and, BitVec.getLsbD_or]
    cases m.toBitVec.getLsbD i <;> cases (1 : Int32).toBitVec.getLsbD i <;> rfl
  rw [q2] at q3
  exact absurd q3 (by decide)
def own_hq (k i h g : Int32) : Int32 := if (((k.toUInt32 >>> (i &&& 31).toUInt32).toInt32) &&& (1 : Int32)) = (0 : Int32) then g else h
def own_hs (k h g : Int32) (j : Nat) : Int32 := if j = 0 then 0 else own_hq k (Int32.ofNat (j - 1)) h g
def own_cn (n : Int32) : Int32 := (n &&& (2147483647 : Int32)) % (10 : Int32)
theorem own_cn_in (n : Int32) : ∃ c : Nat, c ≤ 9 ∧ own_cn n = Int32.ofNat c := by
  have m := c_mask n (2147483647 : Int32) 31 (by decide) (by decide)
  have i := (c_irem (n &&& (2147483647 : Int32)) (10 : Int32) 10 (by decide)).1 (by rw [m]; omega)
  refine ⟨(own_cn n).toInt.toNat, ?_, ?_⟩
  · unfold own_cn; rw [i]; omega
  · have h2 : 0 ≤ (own_cn n).toInt ∧ (own_cn n).toInt ≤ 9 := by unfold own_cn; rw [i]; omega
    have h3 : (own_cn n).toInt = (((own_cn n).toInt.toNat : Nat) : Int) := by omega
    generalize (own_cn n).toInt.toNat = c at *
    have hc : c ≤ 9 := by omega
    rw [← Int32.toInt_inj, h3]
    rcases own_j9 hc with rfl | rfl | rfl | rfl | rfl | rfl | rfl | rfl | rfl | rfl <;> decide
theorem own_bitv (k : Int32) (i : Nat) (hi : i ≤ 8) : (((k.toUInt32 >>> (Int32.ofNat i &&& 31).toUInt32).toInt32) &&& (1 : Int32)) = (0 : Int32) ↔ (k.toBitVec.toNat >>> i) % 2 = 0 := by
  have key : ((((k.toUInt32 >>> (Int32.ofNat i &&& 31).toUInt32).toInt32) &&& (1 : Int32)).toBitVec).toNat = (k.toBitVec.toNat >>> i) % 2 := by
    have : i = 0 ∨ i = 1 ∨ i = 2 ∨ i = 3 ∨ i = 4 ∨ i = 5 ∨ i = 6 ∨ i = 7 ∨ i = 8 := by omega
    rcases this with rfl | rfl | rfl | rfl | rfl | rfl | rfl | rfl | rfl <;> (show _ &&& 1 = _; rw [Nat.and_one_is_mod]; rfl)
  rw [← Int32.toBitVec_inj, ← BitVec.toNat_inj, key]
  rfl
theorem own_exp (k : Int32) (c : Nat) (hc : c ≤ 9) : ∃ v, v < 512 ∧ (k &&& (((1 : Int32) <<< (Int32.ofNat c &&& 31)) - (1 : Int32))) = Int32.ofNat v ∧ ∀ j, 1 ≤ j → j ≤ 9 → (own_eb v j = true ↔ j ≤ c ∧ ¬ (((k.toUInt32 >>> (Int32.ofNat (j - 1) &&& 31).toUInt32).toInt32) &&& (1 : Int32)) = (0 : Int32)) := by
  refine ⟨k.toBitVec.toNat % 2 ^ c, ?_, ?_, ?_⟩
  · have : 2 ^ c ≤ 2 ^ 9 := Nat.pow_le_pow_right (by decide) hc
    have := Nat.mod_lt k.toBitVec.toNat (show 0 < 2 ^ c from Nat.pow_pos (by decide))
    omega
  · rw [← Int32.toBitVec_inj, ← BitVec.toNat_inj]
    have l : k.toBitVec.toNat % 2 ^ c < 4294967296 := Nat.lt_of_le_of_lt (Nat.mod_le _ _) k.toBitVec.isLt
    show _ = (k.toBitVec.toNat % 2 ^ c) % 4294967296
    rw [Nat.mod_eq_of_lt l, ← Nat.and_two_pow_sub_one_eq_mod]
    rcases own_j9 hc with rfl | rfl | rfl | rfl | rfl | rfl | rfl | rfl | rfl | rfl <;> rfl
  · intro j h1 h2
    rw [own_bitv k (j - 1) (by omega), own_eb, beq_iff_eq]
    have t1 := Nat.testBit_eq_decide_div_mod_eq (x := k.toBitVec.toNat % 2 ^ c) (i := j - 1)
    have t2 := Nat.testBit_eq_decide_div_mod_eq (x := k.toBitVec.toNat) (i := j - 1)
    rw [Nat.testBit_mod_two_pow] at t1
    rw [Nat.shiftRight_eq_div_pow, Nat.shiftRight_eq_div_pow]
    by_cases q : j - 1 < c
    · have q2 : j ≤ c := by omega
      simp only [q, decide_true, Bool.true_and] at t1
      rw [t2] at t1
      have t3 : (k.toBitVec.toNat / 2 ^ (j - 1) % 2 = 1) = (k.toBitVec.toNat % 2 ^ c / 2 ^ (j - 1) % 2 = 1) := by simpa using t1
      rw [← t3]
      constructor
      · intro z; exact ⟨q2, by omega⟩
      · rintro ⟨-, z⟩; omega
    · simp only [q, decide_false, Bool.false_and] at t1
      have t3 : ¬ (k.toBitVec.toNat % 2 ^ c / 2 ^ (j - 1) % 2 = 1) := by simpa using t1.symm
      constructor
      · intro z; exact absurd z t3
      · rintro ⟨z, -⟩; omega


def own_S (n i : Nat) : Prop := 1 ≤ i ∧ i ≤ n
def own_q (hs : Nat → Int32) (z : Int32) (j : Nat) : Nat := (own_fi (hs j) z).toNatClampNeg
theorem own_q_lt (hs : Nat → Int32) (z : Int32) (j : Nat) (hz : z = (16 : Int32) ∨ z = (32 : Int32)) : own_q hs z j < z.toNatClampNeg := own_natlt (own_fi_in _ _ hz).1 (own_fi_in _ _ hz).2
theorem own_cnt_le (f : Nat → Nat) (k : Nat) : own_cnt f k ≤ k := by
  induction k with
  | zero => exact Nat.le_refl _
  | succ k ih => rw [own_cnt_succ]; split <;> omega
theorem own_cap {sz : Int32} {n : Nat} (h : sz = Int32.ofNat n) (hn : n ≤ 7) : ¬ (16 : Int32) < ((2 : Int32) * (sz + (1 : Int32))) := by
  subst h
  have : n = 0 ∨ n = 1 ∨ n = 2 ∨ n = 3 ∨ n = 4 ∨ n = 5 ∨ n = 6 ∨ n = 7 := by omega
  rcases this with rfl | rfl | rfl | rfl | rfl | rfl | rfl | rfl <;> decide
theorem own_put1 {hs : Nat → Int32} {z : Int32} {f : Nat → Nat} {n t : Nat} (hz : z = (16 : Int32) ∨ z = (32 : Int32)) (h : own_ok (own_q hs z) z.toNatClampNeg f (own_S n) n) (hn : n ≤ 8) (h1 : f ((own_q hs z (n + 1) + t) % z.toNatClampNeg) = 0) (h2 : ∀ u, u < t → f ((own_q hs z (n + 1) + u) % z.toNatClampNeg) ≠ 0) :
    own_ok (own_q hs z) z.toNatClampNeg (fun p => if p = (own_q hs z (n + 1) + t) % z.toNatClampNeg then n + 1 else f p) (own_S (n + 1)) (n + 1) :=
  own_ok_iff (own_put h (own_zpos hz).1 (n + 1) t h1 h2 (fun q => by unfold own_S at q; omega) ⟨by omega, by omega⟩) (fun j => by unfold own_S; show (j = n + 1 ∨ (1 ≤ j ∧ j ≤ n)) ↔ _; omega) rfl
theorem own_m16 (m : Nat) (h : m ≤ 16) : ((Int32.ofNat m < (16 : Int32)) ↔ m < 16) ∧ (Int32.ofNat m).toNatClampNeg = m ∧ ¬ Int32.ofNat m < 0 := by
  have q : ∀ m : Fin 17, ((Int32.ofNat m.1 < (16 : Int32)) ↔ m.1 < 16) ∧ (Int32.ofNat m.1).toNatClampNeg = m.1 ∧ ¬ Int32.ofNat m.1 < 0 := by decide +kernel
  exact q ⟨m, by omega⟩
theorem own_m1 (m : Nat) (h : m ≤ 32) : Int32.ofNat m + (1 : Int32) = Int32.ofNat (m + 1) := by
  have q : ∀ m : Fin 33, Int32.ofNat m.1 + (1 : Int32) = Int32.ofNat (m.1 + 1) := by decide +kernel
  exact q ⟨m, by omega⟩
theorem own_lt9 (m c : Nat) (h : m ≤ 9) (h2 : c ≤ 9) : (Int32.ofNat m < Int32.ofNat c) ↔ m < c := by
  have q : ∀ m : Fin 10, ∀ c : Fin 10, (Int32.ofNat m.1 < Int32.ofNat c.1) ↔ m.1 < c.1 := by decide +kernel
  exact q ⟨m, by omega⟩ ⟨c, by omega⟩
def own_SR (f : Nat → Nat) (m j : Nat) : Prop := j ≠ 0 ∧ ∃ p, p < m ∧ f p = j
theorem own_SR0 (f : Nat → Nat) (j : Nat) : False ↔ own_SR f 0 j := ⟨fun h => h.elim, fun ⟨_, p, h, _⟩ => by omega⟩
theorem own_SRno (f : Nat → Nat) (m j : Nat) (h : f m = 0) : own_SR f m j ↔ own_SR f (m + 1) j := by
  constructor
  · rintro ⟨a, p, b, c⟩; exact ⟨a, p, by omega, c⟩
  · rintro ⟨a, p, b, c⟩
    refine ⟨a, p, ?_, c⟩
    by_cases e : p = m
    · subst e; omega
    · omega
theorem own_SRyes (f : Nat → Nat) (m j : Nat) (h : f m ≠ 0) : (j = f m ∨ own_SR f m j) ↔ own_SR f (m + 1) j := by
  constructor
  · rintro (rfl | ⟨a, p, b, c⟩)
    · exact ⟨h, m, by omega, rfl⟩
    · exact ⟨a, p, by omega, c⟩
  · rintro ⟨a, p, b, c⟩
    by_cases e : p = m
    · subst e; exact Or.inl c.symm
    · exact Or.inr ⟨a, p, by omega, c⟩
theorem own_SRend {q : Nat → Nat} {f : Nat → Nat} {S : Nat → Prop} {n : Nat} (h : own_ok q 16 f S n) (j : Nat) : own_SR f 16 j ↔ S j := by
  constructor
  · rintro ⟨a, p, b, c⟩; exact c ▸ (h.out p (by omega)).1
  · intro hs
    obtain ⟨p, hp⟩ := h.all j hs
    have := (h.pos j hs).1
    exact ⟨by omega, p, (h.out p (by omega)).2, hp⟩
theorem own_SRnew {q : Nat → Nat} {f : Nat → Nat} {S : Nat → Prop} {n m : Nat} (h : own_ok q 16 f S n) (hm : f m ≠ 0) : ¬ own_SR f m (f m) := by
  rintro ⟨a, p, b, c⟩
  have := h.inj p m (by omega) c
  omega
theorem own_arv0 {Z : State} {h : Heap} {a : Addr} {c : Cell} {ty : FieldType} {d : Value} (A : Arr Z h a c ty) (hs : c.slots.size = 0) : Arv Z h a c.cls ty (0 : Int32) [] d :=
  ⟨c, A, rfl, hs, by decide, fun i hi => by omega, fun i hi => by omega⟩
theorem own_exne {Z : State} {h : Heap} {a b : Addr} {C D : String} (A : Exa Z h a C) (B : Exa Z h b D) (hn : C ≠ D) : a ≠ b := by
  rintro rfl
  obtain ⟨c, k, h1, h2, -⟩ := A
  obtain ⟨c', k', g1, g2, -⟩ := B
  cases h1.symm.trans g1
  exact ids_ne h2 g2 hn rfl
def own_He (Z : State) (h : Heap) (ofs : Nat → Int64) (ds : List Nat) (rf : Nat → Addr) : Prop := ∀ i, i < ds.length → Exa Z h (rf i) "java/lang/Long" ∧ Fld Z h (rf i) "java/lang/Long" "value" "J" (.long (ofs (ds.getD i 0)))
def own_El (Z : State) (h : Heap) (li : Addr) (ofs : Nat → Int64) (ds : List Nat) : Prop := ∀ i, i < ds.length → ∃ (ed : Addr) (ke : ClassId) (rf : Nat → Addr), Fld Z h li "java/util/ArrayList" "elementData" "[Ljava/lang/Object;" (.ref ed) ∧ Arv Z h ed ke (.object "java/lang/Object") (10 : Int32) (own_rl ds.length rf) .null ∧ own_He Z h ofs ds rf
theorem own_He_keep {Z : State} {h h' : Heap} {ofs : Nat → Int64} {ds : List Nat} {rf : Nat → Addr} {ws : List Addr} (H : own_He Z h ofs ds rf) (K : Keep h h' ws) (hw : ∀ i, i < ds.length → rf i ∉ ws) : own_He Z h' ofs ds rf :=
  fun i hi => ⟨(H i hi).1.keep K, (H i hi).2.keep K (hw i hi)⟩
theorem own_He_add {Z : State} {h : Heap} {ofs : Nat → Int64} {ds : List Nat} {rf : Nat → Addr} {r : Addr} {d n : Nat} (H : own_He Z h ofs ds rf) (hn : ds.length = n) (E : Exa Z h r "java/lang/Long") (F : Fld Z h r "java/lang/Long" "value" "J" (.long (ofs d))) : own_He Z h ofs (ds ++ [d]) (fun i => if i = n then r else rf i) := by
  subst hn
  intro i hi
  by_cases q : i = ds.length
  · subst q
    simpa using ⟨E, F⟩
  · rw [List.length_append, List.length_singleton] at hi
    have q2 : i < ds.length := by omega
    have e : (ds ++ [d]).getD i 0 = ds.getD i 0 := by simp [List.getD, List.getElem?_append_left q2]
    simp only [if_neg q]
    rw [e]
    exact H i q2
theorem own_lv (p : Int64) (h1 : ¬ p < (-128 : Int64)) (h2 : ¬ (127 : Int64) < p) : (¬ (p.toInt32 + (128 : Int32)) < 0 ∧ (p.toInt32 + (128 : Int32)) < (256 : Int32)) ∧ ((p.toInt32 + (128 : Int32)) - (128 : Int32)).toInt64 = p := by
  have a : p.toInt32.toInt = p.toInt := by
    rw [Int64.toInt_toInt32]
    rw [Int64.lt_iff_toInt_lt] at h1 h2
    have e2 : (-128 : Int64).toInt = -128 := by decide
    have e3 : (127 : Int64).toInt = 127 := by decide
    rw [Int.bmod_eq_of_le] <;> omega
  have e2 : (-128 : Int64).toInt = -128 := by decide
  have e3 : (127 : Int64).toInt = 127 := by decide
  have e0 : (0 : Int32).toInt = 0 := by decide
  have e1 : (128 : Int32).toInt = 128 := by decide
  have e4 : (256 : Int32).toInt = 256 := by decide
  rw [Int64.lt_iff_toInt_lt] at h1 h2
  have b := c_iadd p.toInt32 (128 : Int32); have r := rng32 (p.toInt32 + (128 : Int32))
  refine ⟨by rw [Int32.lt_iff_toInt_lt, Int32.lt_iff_toInt_lt]; omega, ?_⟩
  rw [Int32.add_sub_cancel, ← Int64.toInt_inj, Int32.toInt_toInt64, a]
theorem own_link {k h g : Int32} {c v : Nat} {ds : List Nat} (hg : ¬ g = h) (hc : c ≤ 9) (hv : ∀ j, 1 ≤ j → j ≤ 9 → (own_eb v j = true ↔ j ≤ c ∧ ¬ (((k.toUInt32 >>> (Int32.ofNat (j - 1) &&& 31).toUInt32).toInt32) &&& (1 : Int32)) = (0 : Int32))) (hm : ∀ j, j ∈ ds ↔ own_S c j ∧ own_hs k h g j = h) (j : Nat) : j ∈ ds ↔ (1 ≤ j ∧ j ≤ 9) ∧ own_eb v j = true := by
  rw [hm j]
  unfold own_S
  constructor
  · rintro ⟨⟨h1, h2⟩, h3⟩
    refine ⟨⟨h1, by omega⟩, (hv j h1 (by omega)).mpr ⟨h2, fun q => ?_⟩⟩
    rw [own_hs, if_neg (by omega), own_hq, if_pos q] at h3
    exact hg h3
  · rintro ⟨⟨h1, h2⟩, h3⟩
    obtain ⟨h4, h5⟩ := (hv j h1 h2).mp h3
    refine ⟨⟨h1, h4⟩, ?_⟩
    rw [own_hs, if_neg (by omega), own_hq, if_neg h5]

theorem own_d1_0 : decode prog_40_method_1_code 0 = .ok (.aload_n 0, 1) := by decide +kernel
theorem own_d1_1 : decode prog_40_method_1_code 1 = .ok (.invokespecial 1, 3) := by decide +kernel
theorem own_d1_4 : decode prog_40_method_1_code 4 = .ok (.aload_n 0, 1) := by decide +kernel
theorem own_d1_5 : decode prog_40_method_1_code 5 = .ok (.bipush 16, 2) := by decide +kernel
theorem own_d1_7 : decode prog_40_method_1_code 7 = .ok (.newarray .long, 2) := by decide +kernel
theorem own_d1_9 : decode prog_40_method_1_code 9 = .ok (.putfield 7, 3) := by decide +kernel
theorem own_d1_12 : decode prog_40_method_1_code 12 = .ok (.aload_n 0, 1) := by decide +kernel
theorem own_d1_13 : decode prog_40_method_1_code 13 = .ok (.bipush 16, 2) := by decide +kernel
theorem own_d1_15 : decode prog_40_method_1_code 15 = .ok (.newarray .int, 2) := by decide +kernel
theorem own_d1_17 : decode prog_40_method_1_code 17 = .ok (.putfield 13, 3) := by decide +kernel
theorem own_d1_20 : decode prog_40_method_1_code 20 = .ok (.return_, 1) := by decide +kernel
theorem own_ef_own_init (m : MethodId) (x0 : Addr) : entryFrame m #[(.ref x0)] 1 = mkF m 0 #[.val (.ref x0)] [] := by first | (simp [entryFrame, mkF, argsToLocals, Value.category]; done) | rfl
def own_Q_own_init (Z : State) (a : Addr) (h0 : Heap) (n0 : Nat) (v : Option Value) (h : Heap) (L : List Loc) : Prop := ∃ (ob : Addr) (sb : Addr) (ko : ClassId) (kh : ClassId), (v = none) ∧ (Fr n0 L) ∧ (Keep h0 h [a]) ∧ (n0 ≤ ob) ∧ (h0.size ≤ ob) ∧ (n0 ≤ sb) ∧ (h0.size ≤ sb) ∧ (ob ≠ sb) ∧ (Fld Z h a "com/example/assayline/assayline/core/MessageIndex" "offsets" "[J" (.ref ob)) ∧ (Fld Z h a "com/example/assayline/assayline/core/MessageIndex" "hashes" "[I" (.ref sb)) ∧ (Fld Z h a "com/example/assayline/assayline/core/MessageIndex" "size" "I" (.int 0)) ∧ (Arv Z h ob ko .long (16 : Int32) [(.long (0 : Int64)), (.long (0 : Int64)), (.long (0 : Int64)), (.long (0 : Int64)), (.long (0 : Int64)), (.long (0 : Int64)), (.long (0 : Int64)), (.long (0 : Int64)), (.long (0 : Int64)), (.long (0 : Int64)), (.long (0 : Int64)), (.long (0 : Int64)), (.long (0 : Int64)), (.long (0 : Int64)), (.long (0 : Int64)), (.long (0 : Int64))] (.long (0 : Int64))) ∧ (Arv Z h sb kh .int (16 : Int32) [(.int 0), (.int 0), (.int 0), (.int 0), (.int 0), (.int 0), (.int 0), (.int 0), (.int 0), (.int 0), (.int 0), (.int 0), (.int 0), (.int 0), (.int 0), (.int 0)] (.int 0))
theorem own_pn368460841 : plainName "com/example/assayline/assayline/core/MessageIndex" = true := by first | (simp [plainName, overriddenIn]; done) | decide +kernel

theorem own_init (l : Launch) (Z : State) (a0 : Array Value) (hw : oT a0 Z) (ws : List Jvm.Cond) (a : Addr) (h0 : Heap) (n0 : Nat) (Z0 : n0 ≤ h0.size) (E_a : Exa Z h0 a "com/example/assayline/assayline/core/MessageIndex") (F_a_offsets : Fld Z h0 a "com/example/assayline/assayline/core/MessageIndex" "offsets" "[J" .null) (F_a_hashes : Fld Z h0 a "com/example/assayline/assayline/core/MessageIndex" "hashes" "[I" .null) (F_a_size : Fld Z h0 a "com/example/assayline/assayline/core/MessageIndex" "size" "I" (.int 0)) (g_a : n0 ≤ a) :
    oMet l oM0 prog_40_method_1_code 1 none ws ⟨1, 2, 32, 12⟩ #[(.ref a)] Z h0 (own_Q_own_init Z a h0 n0) := by
  refine oB n0 "com/example/assayline/assayline/core/MessageIndex" rfl (plainFor_of_name own_pn368460841) (fun m => own_ef_own_init m a) ?_
  intro p e s m below meth c s₁ hZ hx hby hlk hret hml hown hnm X0 e0 N0
  show own_Gl _ _ _ _ _ _ _ (s₁.setTop (mkF m 0 #[.val (.ref a)] []))
  refine own_st (fun _ k => XS.aloadN X0.here hx rfl (hb hby own_d1_0) rfl rfl k) ?_
  obtain ⟨T1, X1, e1, st1⟩ := initO X0 hx hZ hown (oW hw 8 rfl) (oW hw 9 rfl) (oW hw 10 rfl) e0 (g := (mkF m 1 #[.val (.ref a)] [(.ref a)])) rfl (by rw [hml]; rfl) rfl (hb hby own_d1_1) (by decide) (W := 0) (by show 2 * 0 + _ ≤ _; exact Nat.le_of_eq rfl) (by decide)
  refine own_st st1 ?_
  refine own_st (fun _ k => XS.aloadN X1.here hx rfl (hb hby own_d1_4) rfl rfl k) ?_
  refine own_st (fun _ k => XS.bipush X1.here hx rfl (hb hby own_d1_5) k) ?_
  show own_Gl _ _ _ _ _ _ _ (T1.setTop (mkF m 7 #[.val (.ref a)] [(.int 16), (.ref a)]))
  obtain ⟨T2, h2, k2, X2, e2, E2, A2, st2⟩ := newP X1 hx hZ (oW hw 11 rfl) e1 (g := (mkF m 7 #[.val (.ref a)] [(.int 16), (.ref a)])) rfl (hb hby own_d1_7) rfl (by decide) (cap := 16) (by decide) (by decide) (by decide) (by decide)
  obtain ⟨b2, gb2⟩ : ∃ z, z = h0.size := ⟨_, rfl⟩
  rw [← gb2] at A2 st2
  refine own_st st2 ?_
  have Zs3 : n0 ≤ h2.size := Nat.le_trans Z0 E2.1
  have g_b2 : n0 ≤ b2 := Nat.le_trans Z0 (Nat.le_of_eq gb2.symm)
  have gh_b2 : h0.size ≤ b2 := Nat.le_trans (Keep.refl h0 [a]).1 (Nat.le_of_eq gb2.symm)
  have ne_a_b2 : a ≠ b2 := Nat.ne_of_lt (Nat.lt_of_lt_of_le E_a.lt (Nat.le_of_eq gb2.symm))
  have V_b2 : Arv Z h2 b2 k2 .long (16 : Int32) [(.long (0 : Int64)), (.long (0 : Int64)), (.long (0 : Int64)), (.long (0 : Int64)), (.long (0 : Int64)), (.long (0 : Int64)), (.long (0 : Int64)), (.long (0 : Int64)), (.long (0 : Int64)), (.long (0 : Int64)), (.long (0 : Int64)), (.long (0 : Int64)), (.long (0 : Int64)), (.long (0 : Int64)), (.long (0 : Int64)), (.long (0 : Int64))] (.long (0 : Int64)) := (Arv.new A2 (by decide)).pad (pad_rep [] (.long (0 : Int64)) 16)
  have f5 := (E_a.ext E2)
  have f6 := (F_a_offsets.ext E2)
  obtain ⟨T7, h7, X7, e7, W7, st7⟩ := putF X2 hx hZ hown (host := "") (Or.inl (oW hw 12 rfl)) Via.refl e2 f6 f5 (Or.inl (oW hw 13 rfl)) (oW hw 3 rfl) (ty := (.array .long)) (by decide) rfl rfl (g := (mkF m 9 #[.val (.ref a)] [(.ref b2), (.ref a)])) rfl rfl (hb hby own_d1_9)
  have N7 := Fr.snoc X7 N0 g_a
  refine own_st st7 ?_
  have Zs8 : n0 ≤ h7.size := Nat.le_trans Zs3 (Keep.of_wr W7).1
  have Fw7 := f6.same W7
  refine own_st (fun _ k => XS.aloadN X7.here hx rfl (hb hby own_d1_12) rfl rfl k) ?_
  refine own_st (fun _ k => XS.bipush X7.here hx rfl (hb hby own_d1_13) k) ?_
  show own_Gl _ _ _ _ _ _ _ (T7.setTop (mkF m 15 #[.val (.ref a)] [(.int 16), (.ref a)]))
  have f9 := (f5.wr W7)
  have f10 := (V_b2.other W7 (Ne.symm ne_a_b2))
  have K11 : Keep h0 h7 [a] := (((Keep.refl h0 [a]).ext E2).wr W7 (Or.inl (List.mem_of_getElem? (i := 0) rfl)))
  obtain ⟨T12, h12, k12, X12, e12, E12, A12, st12⟩ := newP X7 hx hZ (oW hw 14 rfl) e7 (g := (mkF m 15 #[.val (.ref a)] [(.int 16), (.ref a)])) rfl (hb hby own_d1_15) rfl (by decide) (cap := 16) (by decide) (by decide) (by decide) (by decide)
  obtain ⟨b12, gb12⟩ : ∃ z, z = h7.size := ⟨_, rfl⟩
  rw [← gb12] at A12 st12
  refine own_st st12 ?_
  have Zs13 : n0 ≤ h12.size := Nat.le_trans Zs8 E12.1
  have g_b12 : n0 ≤ b12 := Nat.le_trans Zs8 (Nat.le_of_eq gb12.symm)
  have gh_b12 : h0.size ≤ b12 := Nat.le_trans K11.1 (Nat.le_of_eq gb12.symm)
  have ne_a_b12 : a ≠ b12 := Nat.ne_of_lt (Nat.lt_of_lt_of_le f9.lt (Nat.le_of_eq gb12.symm))
  have ne_b2_b12 : b2 ≠ b12 := Nat.ne_of_lt (Nat.lt_of_lt_of_le f10.lt (Nat.le_of_eq gb12.symm))
  have V_b12 : Arv Z h12 b12 k12 .int (16 : Int32) [(.int 0), (.int 0), (.int 0), (.int 0), (.int 0), (.int 0), (.int 0), (.int 0), (.int 0), (.int 0), (.int 0), (.int 0), (.int 0), (.int 0), (.int 0), (.int 0)] (.int 0) := (Arv.new A12 (by decide)).pad (pad_rep [] (.int 0) 16)
  have f15 := (f9.ext E12)
  have f16 := (((F_a_hashes.ext E2).other W7 (Or.inr (slot_ne (Or.inl (oW hw 16 rfl)) (Or.inl (oW hw 13 rfl)) (by decide) (t := (.array .int)) (t' := (.array .long)) (by decide) (by decide)))).ext E12)
  obtain ⟨T17, h17, X17, e17, W17, st17⟩ := putF X12 hx hZ hown (host := "") (Or.inl (oW hw 15 rfl)) Via.refl e12 f16 f15 (Or.inl (oW hw 16 rfl)) (oW hw 3 rfl) (ty := (.array .int)) (by decide) rfl rfl (g := (mkF m 17 #[.val (.ref a)] [(.ref b12), (.ref a)])) rfl rfl (hb hby own_d1_17)
  have N17 := Fr.snoc X17 N7 g_a
  refine own_st st17 ?_
  have Zs18 : n0 ≤ h17.size := Nat.le_trans Zs13 (Keep.of_wr W17).1
  have Fw17 := f16.same W17
  show own_Gl _ _ _ _ _ _ _ (T17.setTop (mkF m 20 #[.val (.ref a)] []))
  have K19 : Keep h0 h17 [a] := ((K11.ext E12).wr W17 (Or.inl (List.mem_of_getElem? (i := 0) rfl)))
  have f20 := ((Fw7.ext E12).other W17 (Or.inr (slot_ne (Or.inl (oW hw 13 rfl)) (Or.inl (oW hw 16 rfl)) (by decide) (t := (.array .long)) (t' := (.array .int)) (by decide) (by decide))))
  have f21 := ((((F_a_size.ext E2).other W7 (Or.inr (slot_ne (Or.inl (oW hw 27 rfl)) (Or.inl (oW hw 13 rfl)) (by decide) (t := .int) (t' := (.array .long)) (by decide) (by decide)))).ext E12).other W17 (Or.inr (slot_ne (Or.inl (oW hw 27 rfl)) (Or.inl (oW hw 16 rfl)) (by decide) (t := .int) (t' := (.array .int)) (by decide) (by decide))))
  have f22 := ((f10.ext E12).other W17 (Ne.symm ne_a_b2))
  have f23 := (V_b12.other W17 (Ne.symm ne_a_b12))
  exact own_retV X17 hx hlk hret (hb hby own_d1_20) e17 ⟨b2, b12, k2, k12, rfl, N17, K19, g_b2, gh_b2, g_b12, gh_b12, ne_b2_b12, f20, Fw17, f21, f22, f23⟩ (by decide) (by decide)
theorem own_d6_0 : decode prog_40_method_7_code 0 = .ok (.iload_n 1, 1) := by decide +kernel
theorem own_d6_1 : decode prog_40_method_7_code 1 = .ok (.ldc 52, 2) := by decide +kernel
theorem own_d6_3 : decode prog_40_method_7_code 3 = .ok (.imul, 1) := by decide +kernel
theorem own_d6_4 : decode prog_40_method_7_code 4 = .ok (.iconst 1, 1) := by decide +kernel
theorem own_d6_5 : decode prog_40_method_7_code 5 = .ok (.iushr, 1) := by decide +kernel
theorem own_d6_6 : decode prog_40_method_7_code 6 = .ok (.aload_n 0, 1) := by decide +kernel
theorem own_d6_7 : decode prog_40_method_7_code 7 = .ok (.getfield 7, 3) := by decide +kernel
theorem own_d6_10 : decode prog_40_method_7_code 10 = .ok (.arraylength, 1) := by decide +kernel
theorem own_d6_11 : decode prog_40_method_7_code 11 = .ok (.irem, 1) := by decide +kernel
theorem own_d6_12 : decode prog_40_method_7_code 12 = .ok (.ireturn, 1) := by decide +kernel
theorem own_ef_own_first (m : MethodId) (x0 : Addr) (x1 : Int32) : entryFrame m #[(.ref x0), (.int x1)] 2 = mkF m 0 #[.val (.ref x0), .val (.int x1)] [] := by first | (simp [entryFrame, mkF, argsToLocals, Value.category]; done) | rfl
def own_Q_own_first (Z : State) (a : Addr) (x : Int32) (ob : Addr) (ko : ClassId) (z : Int32) (vo : List Value) (h0 : Heap) (n0 : Nat) (v : Option Value) (h : Heap) (L : List Loc) : Prop := (v = some (.int (own_fi x z))) ∧ (Fr n0 L) ∧ (h = h0)

theorem own_first (l : Launch) (Z : State) (a0 : Array Value) (hw : oT a0 Z) (ws : List Jvm.Cond) (a : Addr) (x : Int32) (ob : Addr) (ko : ClassId) (z : Int32) (vo : List Value) (h0 : Heap) (n0 : Nat) (Z0 : n0 ≤ h0.size) (F_a_offsets : Fld Z h0 a "com/example/assayline/assayline/core/MessageIndex" "offsets" "[J" (.ref ob)) (V_ob : Arv Z h0 ob ko .long z vo (.long (0 : Int64))) (hz : z = (16 : Int32) ∨ z = (32 : Int32)) :
    oMet l oM1 prog_40_method_7_code 2 (some .int) ws ⟨0, 0, 0, 0⟩ #[(.ref a), (.int x)] Z h0 (own_Q_own_first Z a x ob ko z vo h0 n0) := by
  refine oB n0 "com/example/assayline/assayline/core/MessageIndex" rfl (plainFor_of_name own_pn368460841) (fun m => own_ef_own_first m a x) ?_
  intro p e s m below meth c s₁ hZ hx hby hlk hret hml hown hnm X0 e0 N0
  show own_Gl _ _ _ _ _ _ _ (s₁.setTop (mkF m 0 #[.val (.ref a), .val (.int x)] []))
  refine own_st (fun _ k => XS.iloadN X0.here hx rfl (hb hby own_d6_0) rfl k) ?_
  refine own_st (X0.ldcInt hx hown (mvT hZ (oW hw 36 rfl)) (g := (mkF m 1 #[.val (.ref a), .val (.int x)] [(.int x)])) rfl (hb hby own_d6_1)) ?_
  refine own_st (fun _ k => XS.imul X0.here hx rfl (hb hby own_d6_3) rfl k) ?_
  refine own_st (fun _ k => XS.iconst X0.here hx rfl (hb hby own_d6_4) k) ?_
  show own_Gl _ _ _ _ _ _ _ (s₁.setTop (mkF m 5 #[.val (.ref a), .val (.int x)] [(.int 1), (.int (x * (-1640531527 : Int32)))]))
  refine own_st (fun _ k => XS.iushr X0.here hx rfl (hb hby own_d6_5) rfl k) ?_
  refine own_st (fun _ k => XS.aloadN X0.here hx rfl (hb hby own_d6_6) rfl rfl k) ?_
  obtain ⟨T1, X1, e1, st1⟩ := getF X0 hx hZ hown (host := "") (Or.inl (oW hw 12 rfl)) Via.refl e0 F_a_offsets (g := (mkF m 7 #[.val (.ref a), .val (.int x)] [(.ref a), (.int (((x * (-1640531527 : Int32)).toUInt32 >>> ((1 : Int32) &&& 31).toUInt32).toInt32))])) rfl rfl (hb hby own_d6_7)
  refine own_st st1 ?_
  obtain ⟨cl2, Ar2, qq2, Ss2, Nn2, Hh2, Gg2⟩ := id V_ob
  refine own_st (X1.arraylength hx (by rw [e1]; exact Ar2.1) (State.isArrayOf_alike hZ.alike Ar2.2.1) (g := (mkF m 10 #[.val (.ref a), .val (.int x)] [(.ref ob), (.int (((x * (-1640531527 : Int32)).toUInt32 >>> ((1 : Int32) &&& 31).toUInt32).toInt32))])) rfl rfl (hb hby own_d6_10)) ?_
  rw [len_of Ss2 Nn2]
  show own_Gl _ _ _ _ _ _ _ (T1.setTop (mkF m 11 #[.val (.ref a), .val (.int x)] [(.int z), (.int (((x * (-1640531527 : Int32)).toUInt32 >>> ((1 : Int32) &&& 31).toUInt32).toInt32))]))
  refine own_st (fun _ k => iremM X1 hx rfl (hb hby own_d6_11) rfl (own_znz hz) k) ?_
  show own_Gl _ _ _ _ _ _ _ (T1.setTop (mkF m 12 #[.val (.ref a), .val (.int x)] [(.int ((((x * (-1640531527 : Int32)).toUInt32 >>> ((1 : Int32) &&& 31).toUInt32).toInt32) % z))]))
  exact own_retI X1 hx hlk hret (hb hby own_d6_12) e1 ⟨rfl, N0, rfl⟩ (by decide) (by decide)
theorem own_d14_0 : decode prog_40_method_8_code 0 = .ok (.iload_n 1, 1) := by decide +kernel
theorem own_d14_1 : decode prog_40_method_8_code 1 = .ok (.iconst 1, 1) := by decide +kernel
theorem own_d14_2 : decode prog_40_method_8_code 2 = .ok (.iadd, 1) := by decide +kernel
theorem own_d14_3 : decode prog_40_method_8_code 3 = .ok (.aload_n 0, 1) := by decide +kernel
theorem own_d14_4 : decode prog_40_method_8_code 4 = .ok (.getfield 7, 3) := by decide +kernel
theorem own_d14_7 : decode prog_40_method_8_code 7 = .ok (.arraylength, 1) := by decide +kernel
theorem own_d14_8 : decode prog_40_method_8_code 8 = .ok (.irem, 1) := by decide +kernel
theorem own_d14_9 : decode prog_40_method_8_code 9 = .ok (.ireturn, 1) := by decide +kernel
theorem own_ef_own_next (m : MethodId) (x0 : Addr) (x1 : Int32) : entryFrame m #[(.ref x0), (.int x1)] 2 = mkF m 0 #[.val (.ref x0), .val (.int x1)] [] := by first | (simp [entryFrame, mkF, argsToLocals, Value.category]; done) | rfl
def own_Q_own_next (Z : State) (a : Addr) (x : Int32) (ob : Addr) (ko : ClassId) (z : Int32) (vo : List Value) (h0 : Heap) (n0 : Nat) (v : Option Value) (h : Heap) (L : List Loc) : Prop := (v = some (.int (own_nxt x z))) ∧ (Fr n0 L) ∧ (h = h0)

theorem own_next (l : Launch) (Z : State) (a0 : Array Value) (hw : oT a0 Z) (ws : List Jvm.Cond) (a : Addr) (x : Int32) (ob : Addr) (ko : ClassId) (z : Int32) (vo : List Value) (h0 : Heap) (n0 : Nat) (Z0 : n0 ≤ h0.size) (F_a_offsets : Fld Z h0 a "com/example/assayline/assayline/core/MessageIndex" "offsets" "[J" (.ref ob)) (V_ob : Arv Z h0 ob ko .long z vo (.long (0 : Int64))) (hz : z = (16 : Int32) ∨ z = (32 : Int32)) :
    oMet l oM2 prog_40_method_8_code 2 (some .int) ws ⟨0, 0, 0, 0⟩ #[(.ref a), (.int x)] Z h0 (own_Q_own_next Z a x ob ko z vo h0 n0) := by
  refine oB n0 "com/example/assayline/assayline/core/MessageIndex" rfl (plainFor_of_name own_pn368460841) (fun m => own_ef_own_next m a x) ?_
  intro p e s m below meth c s₁ hZ hx hby hlk hret hml hown hnm X0 e0 N0
  show own_Gl _ _ _ _ _ _ _ (s₁.setTop (mkF m 0 #[.val (.ref a), .val (.int x)] []))
  refine own_st (fun _ k => XS.iloadN X0.here hx rfl (hb hby own_d14_0) rfl k) ?_
  refine own_st (fun _ k => XS.iconst X0.here hx rfl (hb hby own_d14_1) k) ?_
  refine own_st (fun _ k => XS.iadd X0.here hx rfl (hb hby own_d14_2) rfl k) ?_
  refine own_st (fun _ k => XS.aloadN X0.here hx rfl (hb hby own_d14_3) rfl rfl k) ?_
  show own_Gl _ _ _ _ _ _ _ (s₁.setTop (mkF m 4 #[.val (.ref a), .val (.int x)] [(.ref a), (.int (x + (1 : Int32)))]))
  obtain ⟨T1, X1, e1, st1⟩ := getF X0 hx hZ hown (host := "") (Or.inl (oW hw 12 rfl)) Via.refl e0 F_a_offsets (g := (mkF m 4 #[.val (.ref a), .val (.int x)] [(.ref a), (.int (x + (1 : Int32)))])) rfl rfl (hb hby own_d14_4)
  refine own_st st1 ?_
  obtain ⟨cl2, Ar2, qq2, Ss2, Nn2, Hh2, Gg2⟩ := id V_ob
  refine own_st (X1.arraylength hx (by rw [e1]; exact Ar2.1) (State.isArrayOf_alike hZ.alike Ar2.2.1) (g := (mkF m 7 #[.val (.ref a), .val (.int x)] [(.ref ob), (.int (x + (1 : Int32)))])) rfl rfl (hb hby own_d14_7)) ?_
  rw [len_of Ss2 Nn2]
  refine own_st (fun _ k => iremM X1 hx rfl (hb hby own_d14_8) rfl (own_znz hz) k) ?_
  show own_Gl _ _ _ _ _ _ _ (T1.setTop (mkF m 9 #[.val (.ref a), .val (.int x)] [(.int ((x + (1 : Int32)) % z))]))
  exact own_retI X1 hx hlk hret (hb hby own_d14_9) e1 ⟨rfl, N0, rfl⟩ (by decide) (by decide)
theorem own_d5_0 : decode prog_40_method_6_code 0 = .ok (.aload_n 0, 1) := by decide +kernel
theorem own_d5_1 : decode prog_40_method_6_code 1 = .ok (.iload_n 1, 1) := by decide +kernel
theorem own_d5_2 : decode prog_40_method_6_code 2 = .ok (.invokevirtual 35, 3) := by decide +kernel
theorem own_pd91181837 : parseMethodDescriptor "(I)I" = some ⟨[.int], some .int⟩ := by decide +kernel
theorem own_d5_5 : decode prog_40_method_6_code 5 = .ok (.istore 4, 2) := by decide +kernel
theorem own_d5_7 : decode prog_40_method_6_code 7 = .ok (.aload_n 0, 1) := by decide +kernel
theorem own_d5_8 : decode prog_40_method_6_code 8 = .ok (.getfield 7, 3) := by decide +kernel
theorem own_d5_11 : decode prog_40_method_6_code 11 = .ok (.iload 4, 2) := by decide +kernel
theorem own_d5_13 : decode prog_40_method_6_code 13 = .ok (.laload, 1) := by decide +kernel
theorem own_d5_14 : decode prog_40_method_6_code 14 = .ok (.lconst 0, 1) := by decide +kernel
theorem own_d5_15 : decode prog_40_method_6_code 15 = .ok (.lcmp, 1) := by decide +kernel
theorem own_d5_16 : decode prog_40_method_6_code 16 = .ok (.ifCond .eq 14, 3) := by decide +kernel
theorem own_d5_30 : decode prog_40_method_6_code 30 = .ok (.aload_n 0, 1) := by decide +kernel
theorem own_d5_31 : decode prog_40_method_6_code 31 = .ok (.getfield 7, 3) := by decide +kernel
theorem own_d5_34 : decode prog_40_method_6_code 34 = .ok (.iload 4, 2) := by decide +kernel
theorem own_d5_36 : decode prog_40_method_6_code 36 = .ok (.lload_n 2, 1) := by decide +kernel
theorem own_d5_37 : decode prog_40_method_6_code 37 = .ok (.lastore, 1) := by decide +kernel
theorem own_d5_38 : decode prog_40_method_6_code 38 = .ok (.aload_n 0, 1) := by decide +kernel
theorem own_d5_39 : decode prog_40_method_6_code 39 = .ok (.getfield 13, 3) := by decide +kernel
theorem own_d5_42 : decode prog_40_method_6_code 42 = .ok (.iload 4, 2) := by decide +kernel
theorem own_d5_44 : decode prog_40_method_6_code 44 = .ok (.iload_n 1, 1) := by decide +kernel
theorem own_d5_45 : decode prog_40_method_6_code 45 = .ok (.iastore, 1) := by decide +kernel
theorem own_d5_46 : decode prog_40_method_6_code 46 = .ok (.return_, 1) := by decide +kernel
theorem own_d5_19 : decode prog_40_method_6_code 19 = .ok (.aload_n 0, 1) := by decide +kernel
theorem own_d5_20 : decode prog_40_method_6_code 20 = .ok (.iload 4, 2) := by decide +kernel
theorem own_d5_22 : decode prog_40_method_6_code 22 = .ok (.invokevirtual 49, 3) := by decide +kernel
theorem own_d5_25 : decode prog_40_method_6_code 25 = .ok (.istore 4, 2) := by decide +kernel
theorem own_d5_27 : decode prog_40_method_6_code 27 = .ok (.goto (-20), 3) := by decide +kernel
theorem own_ef_own_place (m : MethodId) (x0 : Addr) (x1 : Int32) (x2 : Int64) : entryFrame m #[(.ref x0), (.int x1), (.long x2)] 5 = mkF m 0 #[.val (.ref x0), .val (.int x1), .val (.long x2), .second, .unset] [] := by first | (simp [entryFrame, mkF, argsToLocals, Value.category]; done) | rfl
def own_Q_own_place (Z : State) (a : Addr) (x : Int32) (o : Int64) (ob : Addr) (sb : Addr) (ko : ClassId) (kh : ClassId) (z : Int32) (f : Nat → Nat) (ofs : Nat → Int64) (hs : Nat → Int32) (j : Nat) (t : Nat) (h0 : Heap) (n0 : Nat) (v : Option Value) (h : Heap) (L : List Loc) : Prop := (v = none) ∧ (Fr n0 L) ∧ (Keep h0 h [ob, sb]) ∧ (Arv Z h ob ko .long z (own_fj z.toNatClampNeg (fun p => ofs ((fun p => if p = (own_q hs z j + t) % z.toNatClampNeg then j else f p) p))) (.long (0 : Int64))) ∧ (Arv Z h sb kh .int z (own_fl z.toNatClampNeg (fun p => hs ((fun p => if p = (own_q hs z j + t) % z.toNatClampNeg then j else f p) p))) (.int 0))

theorem own_place (l : Launch) (Z : State) (a0 : Array Value) (hw : oT a0 Z) (ws : List Jvm.Cond) (a : Addr) (x : Int32) (o : Int64) (ob : Addr) (sb : Addr) (ko : ClassId) (kh : ClassId) (z : Int32) (f : Nat → Nat) (ofs : Nat → Int64) (hs : Nat → Int32) (j : Nat) (t : Nat) (h0 : Heap) (n0 : Nat) (Z0 : n0 ≤ h0.size) (E_a : Exa Z h0 a "com/example/assayline/assayline/core/MessageIndex") (F_a_offsets : Fld Z h0 a "com/example/assayline/assayline/core/MessageIndex" "offsets" "[J" (.ref ob)) (F_a_hashes : Fld Z h0 a "com/example/assayline/assayline/core/MessageIndex" "hashes" "[I" (.ref sb)) (V_ob : Arv Z h0 ob ko .long z (own_fj z.toNatClampNeg (fun p => ofs (f p))) (.long (0 : Int64))) (V_sb : Arv Z h0 sb kh .int z (own_fl z.toNatClampNeg (fun p => hs (f p))) (.int 0)) (g_ob : n0 ≤ ob) (g_sb : n0 ≤ sb) (ne_ob_sb : ob ≠ sb) (ne_a_ob : a ≠ ob) (ne_a_sb : a ≠ sb) (hz : z = (16 : Int32) ∨ z = (32 : Int32)) (hxj : x = hs j) (hoj : o = ofs j) (hof : ∀ p, ofs (f p) = 0 ↔ f p = 0) (ht0 : f ((own_q hs z j + t) % z.toNatClampNeg) = 0) (htn : ∀ u, u < t → f ((own_q hs z j + u) % z.toNatClampNeg) ≠ 0) :
    oMet l oM3 prog_40_method_6_code 5 none ws ⟨1, 0, 0, 13⟩ #[(.ref a), (.int x), (.long o)] Z h0 (own_Q_own_place Z a x o ob sb ko kh z f ofs hs j t h0 n0) := by
  refine oB n0 "com/example/assayline/assayline/core/MessageIndex" rfl (plainFor_of_name own_pn368460841) (fun m => own_ef_own_place m a x o) ?_
  intro p e s m below meth c s₁ hZ hx hby hlk hret hml hown hnm X0 e0 N0
  show own_Gl _ _ _ _ _ _ _ (s₁.setTop (mkF m 0 #[.val (.ref a), .val (.int x), .val (.long o), .second, .unset] []))
  refine own_st (fun _ k => XS.aloadN X0.here hx rfl (hb hby own_d5_0) rfl rfl k) ?_
  refine own_st (fun _ k => XS.iloadN X0.here hx rfl (hb hby own_d5_1) rfl k) ?_
  obtain ⟨cq1, q1, qq1⟩ := E_a.cell
  obtain ⟨_, _, ⟨T1, L1, k1, n1⟩, -, X1, ⟨Lc1, hQ1, l1, y1, z1⟩, st1⟩ := X0.privateBack hx (y := oM1) hown (mvT hZ (oW hw 32 rfl)) (mvT hZ (oW hw 33 rfl)) (own_selpriv hZ (oW hw 3 rfl) (oW hw 34 rfl) (oW hw 33 rfl) (by decide)) (Cond.privateMethod_at (mvP hZ (oW hw 34 rfl) (args := #[]))) (mvT hZ (oW hw 35 rfl)) (by decide) (backOf (W := 0) (own_first l Z a0 hw [] a x ob ko z (own_fj z.toNatClampNeg (fun p => ofs (f p))) h0 n0 Z0 F_a_offsets V_ob hz) hZ (oW hw 35 rfl) (oW hw 4 rfl) (by decide) (by decide)) (g := (mkF m 2 #[.val (.ref a), .val (.int x), .val (.long o), .second, .unset] [(.int x), (.ref a)])) rfl (by rw [hml]; rfl) (Steps.refl _) (a := a) (by rw [e0]; exact q1) qq1 (argsL := [(.int x)]) (rest := []) (lenOf own_pd91181837 rfl) rfl (by show 2 * 0 + _ ≤ _; exact Nat.le_of_eq rfl) (hb hby own_d5_2) (fun _ _ => ⟨rfl, e0, (by decide : 0 + 0 ≤ 0), (by decide : 0 + 0 ≤ 0)⟩)
  dsimp only [Pt.U, Pt.locs, Pt.cells, Pt.slots] at X1 l1 y1 z1 st1 hQ1
  subst l1 y1 z1
  obtain ⟨hh1, eh01⟩ : ∃ z, T1.heap = z := ⟨_, rfl⟩
  rw [eh01] at hQ1
  obtain ⟨rfl, Nq1, eh1⟩ := hQ1
  have N1 := Fr.app N0 Nq1
  refine own_tr st1 ?_
  have e1 : T1.heap = h0 := eh01.trans eh1
  refine own_st (fun _ k => XS.istore X1.here hx rfl (hb hby own_d5_5) rfl (l' := #[.val (.ref a), .val (.int x), .val (.long o), .second, .val (.int (own_fi x z))]) rfl k) ?_
  show own_Gl _ _ _ _ _ _ _ (T1.setTop (mkF m 7 #[.val (.ref a), .val (.int x), .val (.long o), .second, .val (.int (own_fi x z))] []))
  have J7_2 : ∀ (k2 : Nat) (T2 : State) (LL2 : List Loc) (N2 : Fr n0 LL2) (X2 : Stand p l e ⟨1, 0, 0, 13⟩ s m #[(.ref a), (.int x), (.long o)] below meth c T2 LL2 0 0) (e2 : T2.heap = h0) (su : Nat) (ix : Int32) (hix : ¬ ix < 0 ∧ ix < z) (hiu : ix.toNatClampNeg = (own_q hs z j + su) % z.toNatClampNeg) (hsu : su ≤ t) (hk2 : t - su = k2), own_Gl p e below s (own_Q_own_place Z a x o ob sb ko kh z f ofs hs j t h0 n0) 0 0 (T2.setTop (mkF m 7 #[.val (.ref a), .val (.int x), .val (.long o), .second, .val (.int ix)] [])) := by
    intro k2
    induction k2 using Nat.strongRecOn with
    | _ k2 ih2 =>
      intro T2 LL2 N2 X2 e2 su ix hix hiu hsu hk2
      show own_Gl _ _ _ _ _ _ _ (T2.setTop (mkF m 7 #[.val (.ref a), .val (.int x), .val (.long o), .second, .val (.int ix)] []))
      refine own_st (fun _ k => XS.aloadN X2.here hx rfl (hb hby own_d5_7) rfl rfl k) ?_
      obtain ⟨T3, X3, e3, st3⟩ := getF X2 hx hZ hown (host := "") (Or.inl (oW hw 12 rfl)) Via.refl e2 F_a_offsets (g := (mkF m 8 #[.val (.ref a), .val (.int x), .val (.long o), .second, .val (.int ix)] [(.ref a)])) rfl rfl (hb hby own_d5_8)
      refine own_st st3 ?_
      refine own_st (fun _ k => XS.iload X3.here hx rfl (hb hby own_d5_11) rfl k) ?_
      obtain ⟨cl4, Ar4, qq4, Ss4, Nn4, Hh4, Gg4⟩ := id V_ob
      have hin4 : ¬ (ix < 0 ∨ cl4.slots.size ≤ (ix).toNatClampNeg) := inb_of Ss4 hix
      have hat4 : cl4.slots[(ix).toNatClampNeg]? = some (.long (ofs (f ix.toNatClampNeg))) := Hh4.at hin4 (own_fj_get _ _ _ _ (own_natlt hix.1 hix.2))
      refine own_st (X3.laload hx (j := ix) (v := (.long (ofs (f ix.toNatClampNeg)))) (by rw [e3]; exact Ar4.1) (State.isArrayOf_alike hZ.alike Ar4.2.1) Ar4.2.2 hin4 hat4 (g := (mkF m 13 #[.val (.ref a), .val (.int x), .val (.long o), .second, .val (.int ix)] [(.int ix), (.ref ob)])) rfl rfl (hb hby own_d5_13)) ?_
      show own_Gl _ _ _ _ _ _ _ (T3.setTop (mkF m 14 #[.val (.ref a), .val (.int x), .val (.long o), .second, .val (.int ix)] [(.long (ofs (f ix.toNatClampNeg)))]))
      refine own_st (fun _ k => XS.lconst X3.here hx rfl (hb hby own_d5_14) k) ?_
      refine own_st (fun _ k => XS.lcmp X3.here hx rfl (hb hby own_d5_15) rfl k) ?_
      by_cases hc16 : (ofs (f ix.toNatClampNeg)) = (0 : Int64)
      · have hie : ix.toNatClampNeg = (own_q hs z j + t) % z.toNatClampNeg := by
          rcases Nat.lt_or_eq_of_le hsu with q | q
          · exact absurd ((hof _).mp hc16) (by rw [hiu]; exact htn su q)
          · rw [hiu, q]
        refine own_st (fun _ k => XS.ifYes X3.here hx rfl (pc0 := 16) (pc' := 30) rfl (hb hby own_d5_16) rfl ((if0 _ _).trans (teq ((lw_eq _ _).mpr hc16)).1) (by decide) (by decide) k) ?_
        refine own_st (fun _ k => XS.aloadN X3.here hx rfl (hb hby own_d5_30) rfl rfl k) ?_
        show own_Gl _ _ _ _ _ _ _ (T3.setTop (mkF m 31 #[.val (.ref a), .val (.int x), .val (.long o), .second, .val (.int ix)] [(.ref a)]))
        obtain ⟨T5, X5, e5, st5⟩ := getF X3 hx hZ hown (host := "") (Or.inl (oW hw 12 rfl)) Via.refl e3 F_a_offsets (g := (mkF m 31 #[.val (.ref a), .val (.int x), .val (.long o), .second, .val (.int ix)] [(.ref a)])) rfl rfl (hb hby own_d5_31)
        refine own_st st5 ?_
        refine own_st (fun _ k => XS.iload X5.here hx rfl (hb hby own_d5_34) rfl k) ?_
        refine own_st (fun _ k => XS.lloadN X5.here hx rfl (hb hby own_d5_36) rfl k) ?_
        obtain ⟨cl6, Ar6, qq6, Ss6, Nn6, Hh6, Gg6⟩ := id V_ob
        have hin6 : ¬ (ix < 0 ∨ cl6.slots.size ≤ (ix).toNatClampNeg) := inb_of Ss6 hix
        obtain ⟨T6, h6, X6, e6, W6, st6⟩ := stJ X5 hx hZ e5 Ar6 (j := ix) hin6 (g := (mkF m 37 #[.val (.ref a), .val (.int x), .val (.long o), .second, .val (.int ix)] [(.long o), (.int ix), (.ref ob)])) rfl rfl (hb hby own_d5_37)
        have N6 := Fr.snoc X6 N2 g_ob
        refine own_st st6 ?_
        have Zs7 : n0 ≤ h6.size := Nat.le_trans Z0 (Keep.of_wr W6).1
        have Vv6 := Arv.set Ar6 qq6 Ss6 Nn6 Hh6 Gg6 rfl W6 ix.toNatClampNeg (rfl) (by rw [own_fj_len]; exact own_natlt hix.1 hix.2)
        rw [own_fj_set, hoj, own_up ofs f _ j, hie] at Vv6
        have Vw6 : Arv Z h6 ob ko .long z (own_fj z.toNatClampNeg (fun p => ofs ((fun p => if p = (own_q hs z j + t) % z.toNatClampNeg then j else f p) p))) (.long (0 : Int64)) := Vv6
        show own_Gl _ _ _ _ _ _ _ (T6.setTop (mkF m 38 #[.val (.ref a), .val (.int x), .val (.long o), .second, .val (.int ix)] []))
        refine own_st (fun _ k => XS.aloadN X6.here hx rfl (hb hby own_d5_38) rfl rfl k) ?_
        have f8 := (F_a_hashes.other W6 (Or.inl ne_a_ob))
        obtain ⟨T9, X9, e9, st9⟩ := getF X6 hx hZ hown (host := "") (Or.inl (oW hw 15 rfl)) Via.refl e6 f8 (g := (mkF m 39 #[.val (.ref a), .val (.int x), .val (.long o), .second, .val (.int ix)] [(.ref a)])) rfl rfl (hb hby own_d5_39)
        refine own_st st9 ?_
        refine own_st (fun _ k => XS.iload X9.here hx rfl (hb hby own_d5_42) rfl k) ?_
        refine own_st (fun _ k => XS.iloadN X9.here hx rfl (hb hby own_d5_44) rfl k) ?_
        show own_Gl _ _ _ _ _ _ _ (T9.setTop (mkF m 45 #[.val (.ref a), .val (.int x), .val (.long o), .second, .val (.int ix)] [(.int x), (.int ix), (.ref sb)]))
        have f10 := (V_sb.other W6 (Ne.symm ne_ob_sb))
        obtain ⟨cl11, Ar11, qq11, Ss11, Nn11, Hh11, Gg11⟩ := id f10
        have hin11 : ¬ (ix < 0 ∨ cl11.slots.size ≤ (ix).toNatClampNeg) := inb_of Ss11 hix
        obtain ⟨T11, h11, X11, e11, W11, st11⟩ := stI X9 hx hZ e9 Ar11 (j := ix) hin11 (g := (mkF m 45 #[.val (.ref a), .val (.int x), .val (.long o), .second, .val (.int ix)] [(.int x), (.int ix), (.ref sb)])) rfl rfl (hb hby own_d5_45)
        have N11 := Fr.snoc X11 N6 g_sb
        refine own_st st11 ?_
        have Zs12 : n0 ≤ h11.size := Nat.le_trans Zs7 (Keep.of_wr W11).1
        have Vv11 := Arv.set Ar11 qq11 Ss11 Nn11 Hh11 Gg11 rfl W11 ix.toNatClampNeg (rfl) (by rw [own_fl_len]; exact own_natlt hix.1 hix.2)
        rw [own_fl_set, hxj, own_up hs f _ j, hie] at Vv11
        have Vw11 : Arv Z h11 sb kh .int z (own_fl z.toNatClampNeg (fun p => hs ((fun p => if p = (own_q hs z j + t) % z.toNatClampNeg then j else f p) p))) (.int 0) := Vv11
        show own_Gl _ _ _ _ _ _ _ (T11.setTop (mkF m 46 #[.val (.ref a), .val (.int x), .val (.long o), .second, .val (.int ix)] []))
        have K13 : Keep h0 h11 [ob, sb] := (((Keep.refl h0 [ob, sb]).wr W6 (Or.inl (List.mem_of_getElem? (i := 0) rfl))).wr W11 (Or.inl (List.mem_of_getElem? (i := 1) rfl)))
        have f14 := (Vw6.other W11 ne_ob_sb)
        exact own_retV X11 hx hlk hret (hb hby own_d5_46) e11 ⟨rfl, N11, K13, f14, Vw11⟩ (by decide) (by decide)
      · have hlt : su + 1 ≤ t := by
          rcases Nat.lt_or_eq_of_le hsu with q | q
          · exact q
          · exact absurd ((hof _).mpr (by rw [hiu, q]; exact ht0)) hc16
        refine own_st (fun _ k => XS.ifNo X3.here hx rfl (hb hby own_d5_16) rfl ((if0 _ _).trans (feq (mt (lw_eq _ _).mp hc16)).1) k) ?_
        refine own_st (fun _ k => XS.aloadN X3.here hx rfl (hb hby own_d5_19) rfl rfl k) ?_
        show own_Gl _ _ _ _ _ _ _ (T3.setTop (mkF m 20 #[.val (.ref a), .val (.int x), .val (.long o), .second, .val (.int ix)] [(.ref a)]))
        refine own_st (fun _ k => XS.iload X3.here hx rfl (hb hby own_d5_20) rfl k) ?_
        obtain ⟨cq15, q15, qq15⟩ := E_a.cell
        obtain ⟨_, _, ⟨T15, L15, k15, n15⟩, -, X15, ⟨Lc15, hQ15, l15, y15, z15⟩, st15⟩ := X3.privateBack hx (y := oM2) hown (mvT hZ (oW hw 84 rfl)) (mvT hZ (oW hw 85 rfl)) (own_selpriv hZ (oW hw 3 rfl) (oW hw 86 rfl) (oW hw 85 rfl) (by decide)) (Cond.privateMethod_at (mvP hZ (oW hw 86 rfl) (args := #[]))) (mvT hZ (oW hw 87 rfl)) (by decide) (backOf (W := 0) (own_next l Z a0 hw [] a ix ob ko z (own_fj z.toNatClampNeg (fun p => ofs (f p))) h0 n0 Z0 F_a_offsets V_ob hz) hZ (oW hw 87 rfl) (oW hw 4 rfl) (by decide) (by decide)) (g := (mkF m 22 #[.val (.ref a), .val (.int x), .val (.long o), .second, .val (.int ix)] [(.int ix), (.ref a)])) rfl (by rw [hml]; rfl) (Steps.refl _) (a := a) (by rw [e3]; exact q15) qq15 (argsL := [(.int ix)]) (rest := []) (lenOf own_pd91181837 rfl) rfl (by show 2 * 0 + _ ≤ _; exact Nat.le_of_eq rfl) (hb hby own_d5_22) (fun _ _ => ⟨rfl, e3, (by decide : 0 + 0 ≤ 0), (by decide : 0 + 0 ≤ 0)⟩)
        dsimp only [Pt.U, Pt.locs, Pt.cells, Pt.slots] at X15 l15 y15 z15 st15 hQ15
        subst l15 y15 z15
        obtain ⟨hh15, eh015⟩ : ∃ z, T15.heap = z := ⟨_, rfl⟩
        rw [eh015] at hQ15
        obtain ⟨rfl, Nq15, eh15⟩ := hQ15
        have N15 := Fr.app N2 Nq15
        refine own_tr st15 ?_
        have e15 : T15.heap = h0 := eh015.trans eh15
        refine own_st (fun _ k => XS.istore X15.here hx rfl (hb hby own_d5_25) rfl (l' := #[.val (.ref a), .val (.int x), .val (.long o), .second, .val (.int (own_nxt ix z))]) rfl k) ?_
        refine own_st (fun _ k => XS.goto X15.here hx rfl (pc0 := 27) (pc' := 7) rfl (hb hby own_d5_27) (by decide) (by decide) k) ?_
        show own_Gl _ _ _ _ _ _ _ (T15.setTop (mkF m 7 #[.val (.ref a), .val (.int x), .val (.long o), .second, .val (.int (own_nxt ix z))] []))
        show own_Gl _ _ _ _ _ _ _ (T15.setTop (mkF m 7 #[.val (.ref a), .val (.int x), .val (.long o), .second, .val (.int (own_nxt ix z))] []))
        exact ih2 _ (by omega) T15 _ N15 X15 e15 ((su + 1)) ((own_nxt ix z)) (own_nxt_in ix z hz hix).1 (by rw [(own_nxt_in ix z hz hix).2, hiu, Nat.mod_add_mod, Nat.add_assoc]) hlt rfl
  show own_Gl _ _ _ _ _ _ _ (T1.setTop (mkF m 7 #[.val (.ref a), .val (.int x), .val (.long o), .second, .val (.int (own_fi x z))] []))
  exact J7_2 _ T1 _ N1 X1 e1 (0) ((own_fi x z)) (own_fi_in _ _ hz) (by rw [Nat.add_zero, Nat.mod_eq_of_lt (own_q_lt hs z j hz), hxj]; rfl) (Nat.zero_le _) rfl
theorem own_d28_0 : decode prog_40_method_5_code 0 = .ok (.aload_n 0, 1) := by decide +kernel
theorem own_d28_1 : decode prog_40_method_5_code 1 = .ok (.getfield 7, 3) := by decide +kernel
theorem own_d28_4 : decode prog_40_method_5_code 4 = .ok (.astore 4, 2) := by decide +kernel
theorem own_d28_6 : decode prog_40_method_5_code 6 = .ok (.aload_n 0, 1) := by decide +kernel
theorem own_d28_7 : decode prog_40_method_5_code 7 = .ok (.getfield 13, 3) := by decide +kernel
theorem own_d28_10 : decode prog_40_method_5_code 10 = .ok (.astore 5, 2) := by decide +kernel
theorem own_d28_12 : decode prog_40_method_5_code 12 = .ok (.aload_n 0, 1) := by decide +kernel
theorem own_d28_13 : decode prog_40_method_5_code 13 = .ok (.iload_n 1, 1) := by decide +kernel
theorem own_d28_14 : decode prog_40_method_5_code 14 = .ok (.newarray .long, 2) := by decide +kernel
theorem own_d28_16 : decode prog_40_method_5_code 16 = .ok (.putfield 7, 3) := by decide +kernel
theorem own_d28_19 : decode prog_40_method_5_code 19 = .ok (.aload_n 0, 1) := by decide +kernel
theorem own_d28_20 : decode prog_40_method_5_code 20 = .ok (.iload_n 1, 1) := by decide +kernel
theorem own_d28_21 : decode prog_40_method_5_code 21 = .ok (.newarray .int, 2) := by decide +kernel
theorem own_d28_23 : decode prog_40_method_5_code 23 = .ok (.putfield 13, 3) := by decide +kernel
theorem own_d28_26 : decode prog_40_method_5_code 26 = .ok (.aload_n 0, 1) := by decide +kernel
theorem own_d28_27 : decode prog_40_method_5_code 27 = .ok (.iconst 0, 1) := by decide +kernel
theorem own_d28_28 : decode prog_40_method_5_code 28 = .ok (.putfield 17, 3) := by decide +kernel
theorem own_d28_31 : decode prog_40_method_5_code 31 = .ok (.iconst 0, 1) := by decide +kernel
theorem own_d28_32 : decode prog_40_method_5_code 32 = .ok (.istore 6, 2) := by decide +kernel
theorem own_d28_34 : decode prog_40_method_5_code 34 = .ok (.iload 6, 2) := by decide +kernel
theorem own_d28_36 : decode prog_40_method_5_code 36 = .ok (.aload 4, 2) := by decide +kernel
theorem own_d28_38 : decode prog_40_method_5_code 38 = .ok (.arraylength, 1) := by decide +kernel
theorem own_d28_39 : decode prog_40_method_5_code 39 = .ok (.if_icmp .ge 53, 3) := by decide +kernel
theorem own_d28_42 : decode prog_40_method_5_code 42 = .ok (.aload 4, 2) := by decide +kernel
theorem own_d28_44 : decode prog_40_method_5_code 44 = .ok (.iload 6, 2) := by decide +kernel
theorem own_d28_46 : decode prog_40_method_5_code 46 = .ok (.laload, 1) := by decide +kernel
theorem own_d28_47 : decode prog_40_method_5_code 47 = .ok (.lconst 0, 1) := by decide +kernel
theorem own_d28_48 : decode prog_40_method_5_code 48 = .ok (.lcmp, 1) := by decide +kernel
theorem own_d28_49 : decode prog_40_method_5_code 49 = .ok (.ifCond .eq 37, 3) := by decide +kernel
theorem own_d28_86 : decode prog_40_method_5_code 86 = .ok (.iinc 6 1, 3) := by decide +kernel
theorem own_d28_89 : decode prog_40_method_5_code 89 = .ok (.goto (-55), 3) := by decide +kernel
theorem own_d28_52 : decode prog_40_method_5_code 52 = .ok (.aload 4, 2) := by decide +kernel
theorem own_d28_54 : decode prog_40_method_5_code 54 = .ok (.iload 6, 2) := by decide +kernel
theorem own_d28_56 : decode prog_40_method_5_code 56 = .ok (.laload, 1) := by decide +kernel
theorem own_d28_57 : decode prog_40_method_5_code 57 = .ok (.lload_n 2, 1) := by decide +kernel
theorem own_d28_58 : decode prog_40_method_5_code 58 = .ok (.lcmp, 1) := by decide +kernel
theorem own_d28_59 : decode prog_40_method_5_code 59 = .ok (.ifCond .ge 27, 3) := by decide +kernel
theorem own_d28_62 : decode prog_40_method_5_code 62 = .ok (.aload_n 0, 1) := by decide +kernel
theorem own_d28_63 : decode prog_40_method_5_code 63 = .ok (.aload 5, 2) := by decide +kernel
theorem own_d28_65 : decode prog_40_method_5_code 65 = .ok (.iload 6, 2) := by decide +kernel
theorem own_d28_67 : decode prog_40_method_5_code 67 = .ok (.iaload, 1) := by decide +kernel
theorem own_d28_68 : decode prog_40_method_5_code 68 = .ok (.aload 4, 2) := by decide +kernel
theorem own_d28_70 : decode prog_40_method_5_code 70 = .ok (.iload 6, 2) := by decide +kernel
theorem own_d28_72 : decode prog_40_method_5_code 72 = .ok (.laload, 1) := by decide +kernel
theorem own_d28_73 : decode prog_40_method_5_code 73 = .ok (.invokevirtual 29, 3) := by decide +kernel
theorem own_pd945382854 : parseMethodDescriptor "(IJ)V" = some ⟨[.int, .long], none⟩ := by decide +kernel
theorem own_d28_76 : decode prog_40_method_5_code 76 = .ok (.aload_n 0, 1) := by decide +kernel
theorem own_d28_77 : decode prog_40_method_5_code 77 = .ok (.dup, 1) := by decide +kernel
theorem own_d28_78 : decode prog_40_method_5_code 78 = .ok (.getfield 17, 3) := by decide +kernel
theorem own_d28_81 : decode prog_40_method_5_code 81 = .ok (.iconst 1, 1) := by decide +kernel
theorem own_d28_82 : decode prog_40_method_5_code 82 = .ok (.iadd, 1) := by decide +kernel
theorem own_d28_83 : decode prog_40_method_5_code 83 = .ok (.putfield 17, 3) := by decide +kernel
theorem own_d28_92 : decode prog_40_method_5_code 92 = .ok (.return_, 1) := by decide +kernel
theorem own_ef_own_rebuild (m : MethodId) (x0 : Addr) (x1 : Int32) (x2 : Int64) : entryFrame m #[(.ref x0), (.int x1), (.long x2)] 7 = mkF m 0 #[.val (.ref x0), .val (.int x1), .val (.long x2), .second, .unset, .unset, .unset] [] := by first | (simp [entryFrame, mkF, argsToLocals, Value.category]; done) | rfl
def own_Q_own_rebuild (Z : State) (a : Addr) (ob : Addr) (sb : Addr) (ko : ClassId) (kh : ClassId) (sz : Int32) (f : Nat → Nat) (ofs : Nat → Int64) (hs : Nat → Int32) (h0 : Heap) (n0 : Nat) (v : Option Value) (h : Heap) (L : List Loc) : Prop := ∃ (ob2 : Addr) (sb2 : Addr) (ko2 : ClassId) (kh2 : ClassId) (f2 : Nat → Nat), (v = none) ∧ (Fr n0 L) ∧ (Keep h0 h [a]) ∧ (n0 ≤ ob2) ∧ (h0.size ≤ ob2) ∧ (n0 ≤ sb2) ∧ (h0.size ≤ sb2) ∧ (ob2 ≠ sb2) ∧ (Fld Z h a "com/example/assayline/assayline/core/MessageIndex" "offsets" "[J" (.ref ob2)) ∧ (Fld Z h a "com/example/assayline/assayline/core/MessageIndex" "hashes" "[I" (.ref sb2)) ∧ (Fld Z h a "com/example/assayline/assayline/core/MessageIndex" "size" "I" (.int 8)) ∧ (Arv Z h ob2 ko2 .long (32 : Int32) (own_fj (32 : Int32).toNatClampNeg (fun p => ofs (f2 p))) (.long (0 : Int64))) ∧ (Arv Z h sb2 kh2 .int (32 : Int32) (own_fl (32 : Int32).toNatClampNeg (fun p => hs (f2 p))) (.int 0)) ∧ (own_ok (own_q hs (32 : Int32)) (32 : Int32).toNatClampNeg f2 (own_S 8) 8)

theorem own_rebuild (l : Launch) (Z : State) (a0 : Array Value) (hw : oT a0 Z) (ws : List Jvm.Cond) (a : Addr) (ob : Addr) (sb : Addr) (ko : ClassId) (kh : ClassId) (sz : Int32) (f : Nat → Nat) (ofs : Nat → Int64) (hs : Nat → Int32) (h0 : Heap) (n0 : Nat) (Z0 : n0 ≤ h0.size) (E_a : Exa Z h0 a "com/example/assayline/assayline/core/MessageIndex") (F_a_offsets : Fld Z h0 a "com/example/assayline/assayline/core/MessageIndex" "offsets" "[J" (.ref ob)) (F_a_hashes : Fld Z h0 a "com/example/assayline/assayline/core/MessageIndex" "hashes" "[I" (.ref sb)) (F_a_size : Fld Z h0 a "com/example/assayline/assayline/core/MessageIndex" "size" "I" (.int sz)) (V_ob : Arv Z h0 ob ko .long (16 : Int32) (own_fj (16 : Int32).toNatClampNeg (fun p => ofs (f p))) (.long (0 : Int64))) (V_sb : Arv Z h0 sb kh .int (16 : Int32) (own_fl (16 : Int32).toNatClampNeg (fun p => hs (f p))) (.int 0)) (g_a : n0 ≤ a) (ne_a_ob : a ≠ ob) (ne_a_sb : a ≠ sb) (hof9 : ∀ i, i ≤ 9 → (ofs i = 0 ↔ i = 0) ∧ ofs i < (9223372036854775807 : Int64)) (hh0 : hs 0 = 0) (hok : own_ok (own_q hs (16 : Int32)) (16 : Int32).toNatClampNeg f (own_S 8) 8) :
    oMet l oM4 prog_40_method_5_code 7 none ws ⟨2, 2, 64, 29⟩ #[(.ref a), (.int 32), (.long (9223372036854775807 : Int64))] Z h0 (own_Q_own_rebuild Z a ob sb ko kh sz f ofs hs h0 n0) := by
  refine oB n0 "com/example/assayline/assayline/core/MessageIndex" rfl (plainFor_of_name own_pn368460841) (fun m => own_ef_own_rebuild m a (32 : Int32) (9223372036854775807 : Int64)) ?_
  intro p e s m below meth c s₁ hZ hx hby hlk hret hml hown hnm X0 e0 N0
  show own_Gl _ _ _ _ _ _ _ (s₁.setTop (mkF m 0 #[.val (.ref a), .val (.int 32), .val (.long (9223372036854775807 : Int64)), .second, .unset, .unset, .unset] []))
  refine own_st (fun _ k => XS.aloadN X0.here hx rfl (hb hby own_d28_0) rfl rfl k) ?_
  obtain ⟨T1, X1, e1, st1⟩ := getF X0 hx hZ hown (host := "") (Or.inl (oW hw 12 rfl)) Via.refl e0 F_a_offsets (g := (mkF m 1 #[.val (.ref a), .val (.int 32), .val (.long (9223372036854775807 : Int64)), .second, .unset, .unset, .unset] [(.ref a)])) rfl rfl (hb hby own_d28_1)
  refine own_st st1 ?_
  refine own_st (fun _ k => XS.astore X1.here hx rfl (hb hby own_d28_4) rfl rfl (l' := #[.val (.ref a), .val (.int 32), .val (.long (9223372036854775807 : Int64)), .second, .val (.ref ob), .unset, .unset]) rfl k) ?_
  refine own_st (fun _ k => XS.aloadN X1.here hx rfl (hb hby own_d28_6) rfl rfl k) ?_
  show own_Gl _ _ _ _ _ _ _ (T1.setTop (mkF m 7 #[.val (.ref a), .val (.int 32), .val (.long (9223372036854775807 : Int64)), .second, .val (.ref ob), .unset, .unset] [(.ref a)]))
  obtain ⟨T2, X2, e2, st2⟩ := getF X1 hx hZ hown (host := "") (Or.inl (oW hw 15 rfl)) Via.refl e1 F_a_hashes (g := (mkF m 7 #[.val (.ref a), .val (.int 32), .val (.long (9223372036854775807 : Int64)), .second, .val (.ref ob), .unset, .unset] [(.ref a)])) rfl rfl (hb hby own_d28_7)
  refine own_st st2 ?_
  refine own_st (fun _ k => XS.astore X2.here hx rfl (hb hby own_d28_10) rfl rfl (l' := #[.val (.ref a), .val (.int 32), .val (.long (9223372036854775807 : Int64)), .second, .val (.ref ob), .val (.ref sb), .unset]) rfl k) ?_
  refine own_st (fun _ k => XS.aloadN X2.here hx rfl (hb hby own_d28_12) rfl rfl k) ?_
  refine own_st (fun _ k => XS.iloadN X2.here hx rfl (hb hby own_d28_13) rfl k) ?_
  show own_Gl _ _ _ _ _ _ _ (T2.setTop (mkF m 14 #[.val (.ref a), .val (.int 32), .val (.long (9223372036854775807 : Int64)), .second, .val (.ref ob), .val (.ref sb), .unset] [(.int 32), (.ref a)]))
  obtain ⟨T3, h3, k3, X3, e3, E3, A3, st3⟩ := newP X2 hx hZ (oW hw 11 rfl) e2 (g := (mkF m 14 #[.val (.ref a), .val (.int 32), .val (.long (9223372036854775807 : Int64)), .second, .val (.ref ob), .val (.ref sb), .unset] [(.int 32), (.ref a)])) rfl (hb hby own_d28_14) rfl (by decide) (cap := 32) (by decide) (by decide) (by decide) (by decide)
  obtain ⟨b3, gb3⟩ : ∃ z, z = h0.size := ⟨_, rfl⟩
  rw [← gb3] at A3 st3
  refine own_st st3 ?_
  have Zs4 : n0 ≤ h3.size := Nat.le_trans Z0 E3.1
  have g_b3 : n0 ≤ b3 := Nat.le_trans Z0 (Nat.le_of_eq gb3.symm)
  have gh_b3 : h0.size ≤ b3 := Nat.le_trans (Keep.refl h0 [a]).1 (Nat.le_of_eq gb3.symm)
  have ne_a_b3 : a ≠ b3 := Nat.ne_of_lt (Nat.lt_of_lt_of_le E_a.lt (Nat.le_of_eq gb3.symm))
  have ne_ob_b3 : ob ≠ b3 := Nat.ne_of_lt (Nat.lt_of_lt_of_le V_ob.lt (Nat.le_of_eq gb3.symm))
  have ne_sb_b3 : sb ≠ b3 := Nat.ne_of_lt (Nat.lt_of_lt_of_le V_sb.lt (Nat.le_of_eq gb3.symm))
  have V_b3 : Arv Z h3 b3 k3 .long (32 : Int32) [(.long (0 : Int64)), (.long (0 : Int64)), (.long (0 : Int64)), (.long (0 : Int64)), (.long (0 : Int64)), (.long (0 : Int64)), (.long (0 : Int64)), (.long (0 : Int64)), (.long (0 : Int64)), (.long (0 : Int64)), (.long (0 : Int64)), (.long (0 : Int64)), (.long (0 : Int64)), (.long (0 : Int64)), (.long (0 : Int64)), (.long (0 : Int64)), (.long (0 : Int64)), (.long (0 : Int64)), (.long (0 : Int64)), (.long (0 : Int64)), (.long (0 : Int64)), (.long (0 : Int64)), (.long (0 : Int64)), (.long (0 : Int64)), (.long (0 : Int64)), (.long (0 : Int64)), (.long (0 : Int64)), (.long (0 : Int64)), (.long (0 : Int64)), (.long (0 : Int64)), (.long (0 : Int64)), (.long (0 : Int64))] (.long (0 : Int64)) := (Arv.new A3 (by decide)).pad (pad_rep [] (.long (0 : Int64)) 32)
  have f6 := (E_a.ext E3)
  have f7 := (F_a_offsets.ext E3)
  obtain ⟨T8, h8, X8, e8, W8, st8⟩ := putF X3 hx hZ hown (host := "") (Or.inl (oW hw 12 rfl)) Via.refl e3 f7 f6 (Or.inl (oW hw 13 rfl)) (oW hw 3 rfl) (ty := (.array .long)) (by decide) rfl rfl (g := (mkF m 16 #[.val (.ref a), .val (.int 32), .val (.long (9223372036854775807 : Int64)), .second, .val (.ref ob), .val (.ref sb), .unset] [(.ref b3), (.ref a)])) rfl rfl (hb hby own_d28_16)
  have N8 := Fr.snoc X8 N0 g_a
  refine own_st st8 ?_
  have Zs9 : n0 ≤ h8.size := Nat.le_trans Zs4 (Keep.of_wr W8).1
  have Fw8 := f7.same W8
  refine own_st (fun _ k => XS.aloadN X8.here hx rfl (hb hby own_d28_19) rfl rfl k) ?_
  refine own_st (fun _ k => XS.iloadN X8.here hx rfl (hb hby own_d28_20) rfl k) ?_
  show own_Gl _ _ _ _ _ _ _ (T8.setTop (mkF m 21 #[.val (.ref a), .val (.int 32), .val (.long (9223372036854775807 : Int64)), .second, .val (.ref ob), .val (.ref sb), .unset] [(.int 32), (.ref a)]))
  have f10 := (f6.wr W8)
  have f11 := ((V_ob.ext E3).other W8 (Ne.symm ne_a_ob))
  have f12 := ((V_sb.ext E3).other W8 (Ne.symm ne_a_sb))
  have f13 := (V_b3.other W8 (Ne.symm ne_a_b3))
  have K14 : Keep h0 h8 [a] := (((Keep.refl h0 [a]).ext E3).wr W8 (Or.inl (List.mem_of_getElem? (i := 0) rfl)))
  obtain ⟨T15, h15, k15, X15, e15, E15, A15, st15⟩ := newP X8 hx hZ (oW hw 14 rfl) e8 (g := (mkF m 21 #[.val (.ref a), .val (.int 32), .val (.long (9223372036854775807 : Int64)), .second, .val (.ref ob), .val (.ref sb), .unset] [(.int 32), (.ref a)])) rfl (hb hby own_d28_21) rfl (by decide) (cap := 32) (by decide) (by decide) (by decide) (by decide)
  obtain ⟨b15, gb15⟩ : ∃ z, z = h8.size := ⟨_, rfl⟩
  rw [← gb15] at A15 st15
  refine own_st st15 ?_
  have Zs16 : n0 ≤ h15.size := Nat.le_trans Zs9 E15.1
  have g_b15 : n0 ≤ b15 := Nat.le_trans Zs9 (Nat.le_of_eq gb15.symm)
  have gh_b15 : h0.size ≤ b15 := Nat.le_trans K14.1 (Nat.le_of_eq gb15.symm)
  have ne_a_b15 : a ≠ b15 := Nat.ne_of_lt (Nat.lt_of_lt_of_le f10.lt (Nat.le_of_eq gb15.symm))
  have ne_ob_b15 : ob ≠ b15 := Nat.ne_of_lt (Nat.lt_of_lt_of_le f11.lt (Nat.le_of_eq gb15.symm))
  have ne_sb_b15 : sb ≠ b15 := Nat.ne_of_lt (Nat.lt_of_lt_of_le f12.lt (Nat.le_of_eq gb15.symm))
  have ne_b3_b15 : b3 ≠ b15 := Nat.ne_of_lt (Nat.lt_of_lt_of_le f13.lt (Nat.le_of_eq gb15.symm))
  have V_b15 : Arv Z h15 b15 k15 .int (32 : Int32) [(.int 0), (.int 0), (.int 0), (.int 0), (.int 0), (.int 0), (.int 0), (.int 0), (.int 0), (.int 0), (.int 0), (.int 0), (.int 0), (.int 0), (.int 0), (.int 0), (.int 0), (.int 0), (.int 0), (.int 0), (.int 0), (.int 0), (.int 0), (.int 0), (.int 0), (.int 0), (.int 0), (.int 0), (.int 0), (.int 0), (.int 0), (.int 0)] (.int 0) := (Arv.new A15 (by decide)).pad (pad_rep [] (.int 0) 32)
  have f18 := (f10.ext E15)
  have f19 := (((F_a_hashes.ext E3).other W8 (Or.inr (slot_ne (Or.inl (oW hw 16 rfl)) (Or.inl (oW hw 13 rfl)) (by decide) (t := (.array .int)) (t' := (.array .long)) (by decide) (by decide)))).ext E15)
  obtain ⟨T20, h20, X20, e20, W20, st20⟩ := putF X15 hx hZ hown (host := "") (Or.inl (oW hw 15 rfl)) Via.refl e15 f19 f18 (Or.inl (oW hw 16 rfl)) (oW hw 3 rfl) (ty := (.array .int)) (by decide) rfl rfl (g := (mkF m 23 #[.val (.ref a), .val (.int 32), .val (.long (9223372036854775807 : Int64)), .second, .val (.ref ob), .val (.ref sb), .unset] [(.ref b15), (.ref a)])) rfl rfl (hb hby own_d28_23)
  have N20 := Fr.snoc X20 N8 g_a
  refine own_st st20 ?_
  have Zs21 : n0 ≤ h20.size := Nat.le_trans Zs16 (Keep.of_wr W20).1
  have Fw20 := f19.same W20
  refine own_st (fun _ k => XS.aloadN X20.here hx rfl (hb hby own_d28_26) rfl rfl k) ?_
  refine own_st (fun _ k => XS.iconst X20.here hx rfl (hb hby own_d28_27) k) ?_
  show own_Gl _ _ _ _ _ _ _ (T20.setTop (mkF m 28 #[.val (.ref a), .val (.int 32), .val (.long (9223372036854775807 : Int64)), .second, .val (.ref ob), .val (.ref sb), .unset] [(.int 0), (.ref a)]))
  have f22 := (f18.wr W20)
  have f23 := ((((F_a_size.ext E3).other W8 (Or.inr (slot_ne (Or.inl (oW hw 27 rfl)) (Or.inl (oW hw 13 rfl)) (by decide) (t := .int) (t' := (.array .long)) (by decide) (by decide)))).ext E15).other W20 (Or.inr (slot_ne (Or.inl (oW hw 27 rfl)) (Or.inl (oW hw 16 rfl)) (by decide) (t := .int) (t' := (.array .int)) (by decide) (by decide))))
  obtain ⟨T24, h24, X24, e24, W24, st24⟩ := putF X20 hx hZ hown (host := "") (Or.inl (oW hw 26 rfl)) Via.refl e20 f23 f22 (Or.inl (oW hw 27 rfl)) (oW hw 3 rfl) (ty := .int) (by decide) rfl rfl (g := (mkF m 28 #[.val (.ref a), .val (.int 32), .val (.long (9223372036854775807 : Int64)), .second, .val (.ref ob), .val (.ref sb), .unset] [(.int 0), (.ref a)])) rfl rfl (hb hby own_d28_28)
  have N24 := Fr.snoc X24 N20 g_a
  refine own_st st24 ?_
  have Zs25 : n0 ≤ h24.size := Nat.le_trans Zs21 (Keep.of_wr W24).1
  have Fw24 := f23.same W24
  refine own_st (fun _ k => XS.iconst X24.here hx rfl (hb hby own_d28_31) k) ?_
  refine own_st (fun _ k => XS.istore X24.here hx rfl (hb hby own_d28_32) rfl (l' := #[.val (.ref a), .val (.int 32), .val (.long (9223372036854775807 : Int64)), .second, .val (.ref ob), .val (.ref sb), .val (.int 0)]) rfl k) ?_
  have o0 : ofs 0 = 0 := (hof9 0 (Nat.zero_le _)).1.mpr rfl
  have f26 := (((f13.ext E15).other W20 (Ne.symm ne_a_b3)).other W24 (Ne.symm ne_a_b3))
  have Vz27 : Arv Z h24 b3 k3 .long (32 : Int32) (own_fj (32 : Int32).toNatClampNeg (fun p => ofs ((fun _ => 0) p))) (.long (0 : Int64)) := by show Arv _ _ _ _ _ _ (own_fj (32 : Int32).toNatClampNeg (fun _ => ofs 0)) _; rw [o0]; exact f26
  have f28 := ((V_b15.other W20 (Ne.symm ne_a_b15)).other W24 (Ne.symm ne_a_b15))
  have Vz29 : Arv Z h24 b15 k15 .int (32 : Int32) (own_fl (32 : Int32).toNatClampNeg (fun p => hs ((fun _ => 0) p))) (.int 0) := by show Arv _ _ _ _ _ _ (own_fl (32 : Int32).toNatClampNeg (fun _ => hs 0)) _; rw [hh0]; exact f28
  have J34_30 : ∀ (k30 : Nat) (T30 : State) (LL30 : List Loc) (N30 : Fr n0 LL30) (X30 : Stand p l e ⟨2, 2, 64, 29⟩ s m #[(.ref a), (.int 32), (.long (9223372036854775807 : Int64))] below meth c T30 LL30 2 64) (h30 : Heap) (e30 : T30.heap = h30) (mm : Nat) (ii : Int32) (sz2 : Int32) (f2 : Nat → Nat) (Zs30 : n0 ≤ h30.size) (Kj30 : Keep h0 h30 [a]) (fj30_0 : Exa Z h30 a "com/example/assayline/assayline/core/MessageIndex") (fj30_1 : Fld Z h30 a "com/example/assayline/assayline/core/MessageIndex" "offsets" "[J" (.ref b3)) (fj30_2 : Fld Z h30 a "com/example/assayline/assayline/core/MessageIndex" "hashes" "[I" (.ref b15)) (fj30_3 : Fld Z h30 a "com/example/assayline/assayline/core/MessageIndex" "size" "I" (.int sz2)) (fj30_4 : Arv Z h30 b3 k3 .long (32 : Int32) (own_fj (32 : Int32).toNatClampNeg (fun p => ofs (f2 p))) (.long (0 : Int64))) (fj30_5 : Arv Z h30 b15 k15 .int (32 : Int32) (own_fl (32 : Int32).toNatClampNeg (fun p => hs (f2 p))) (.int 0)) (fj30_6 : Arv Z h30 ob ko .long (16 : Int32) (own_fj (16 : Int32).toNatClampNeg (fun p => ofs (f p))) (.long (0 : Int64))) (fj30_7 : Arv Z h30 sb kh .int (16 : Int32) (own_fl (16 : Int32).toNatClampNeg (fun p => hs (f p))) (.int 0)) (hm : mm ≤ 16) (hii : ii = Int32.ofNat mm) (hok2 : own_ok (own_q hs (32 : Int32)) (32 : Int32).toNatClampNeg f2 (own_SR f mm) (own_cnt f mm)) (hsz : sz2 = Int32.ofNat (own_cnt f mm)) (hk30 : 16 - mm = k30), own_Gl p e below s (own_Q_own_rebuild Z a ob sb ko kh sz f ofs hs h0 n0) 2 64 (T30.setTop (mkF m 34 #[.val (.ref a), .val (.int 32), .val (.long (9223372036854775807 : Int64)), .second, .val (.ref ob), .val (.ref sb), .val (.int ii)] [])) := by
    intro k30
    induction k30 using Nat.strongRecOn with
    | _ k30 ih30 =>
      intro T30 LL30 N30 X30 h30 e30 mm ii sz2 f2 Zs30 Kj30 fj30_0 fj30_1 fj30_2 fj30_3 fj30_4 fj30_5 fj30_6 fj30_7 hm hii hok2 hsz hk30
      show own_Gl _ _ _ _ _ _ _ (T30.setTop (mkF m 34 #[.val (.ref a), .val (.int 32), .val (.long (9223372036854775807 : Int64)), .second, .val (.ref ob), .val (.ref sb), .val (.int ii)] []))
      refine own_st (fun _ k => XS.iload X30.here hx rfl (hb hby own_d28_34) rfl k) ?_
      refine own_st (fun _ k => XS.aload X30.here hx rfl (hb hby own_d28_36) rfl rfl k) ?_
      obtain ⟨cl31, Ar31, qq31, Ss31, Nn31, Hh31, Gg31⟩ := id fj30_6
      refine own_st (X30.arraylength hx (by rw [e30]; exact Ar31.1) (State.isArrayOf_alike hZ.alike Ar31.2.1) (g := (mkF m 38 #[.val (.ref a), .val (.int 32), .val (.long (9223372036854775807 : Int64)), .second, .val (.ref ob), .val (.ref sb), .val (.int ii)] [(.ref ob), (.int ii)])) rfl rfl (hb hby own_d28_38)) ?_
      rw [len_of Ss31 Nn31]
      by_cases hc39 : ii < (16 : Int32)
      · have hmm : mm + 1 ≤ 16 := (own_m16 mm hm).1.mp (hii ▸ hc39)
        have hnat : ii.toNatClampNeg = mm := by rw [hii]; exact (own_m16 mm hm).2.1
        have hix : ¬ ii < 0 ∧ ii < (16 : Int32) := ⟨by rw [hii]; exact (own_m16 mm hm).2.2, hc39⟩
        refine own_st (fun _ k => XS.icmpNo X30.here hx rfl (hb hby own_d28_39) rfl (tlt hc39).2.1 k) ?_
        show own_Gl _ _ _ _ _ _ _ (T30.setTop (mkF m 42 #[.val (.ref a), .val (.int 32), .val (.long (9223372036854775807 : Int64)), .second, .val (.ref ob), .val (.ref sb), .val (.int ii)] []))
        refine own_st (fun _ k => XS.aload X30.here hx rfl (hb hby own_d28_42) rfl rfl k) ?_
        refine own_st (fun _ k => XS.iload X30.here hx rfl (hb hby own_d28_44) rfl k) ?_
        obtain ⟨cl32, Ar32, qq32, Ss32, Nn32, Hh32, Gg32⟩ := id fj30_6
        have hin32 : ¬ (ii < 0 ∨ cl32.slots.size ≤ (ii).toNatClampNeg) := inb_of Ss32 hix
        have hat32 : cl32.slots[(ii).toNatClampNeg]? = some (.long (ofs (f mm))) := Hh32.at hin32 (by rw [hnat]; exact own_fj_get _ _ _ _ hmm)
        refine own_st (X30.laload hx (j := ii) (v := (.long (ofs (f mm)))) (by rw [e30]; exact Ar32.1) (State.isArrayOf_alike hZ.alike Ar32.2.1) Ar32.2.2 hin32 hat32 (g := (mkF m 46 #[.val (.ref a), .val (.int 32), .val (.long (9223372036854775807 : Int64)), .second, .val (.ref ob), .val (.ref sb), .val (.int ii)] [(.int ii), (.ref ob)])) rfl rfl (hb hby own_d28_46)) ?_
        refine own_st (fun _ k => XS.lconst X30.here hx rfl (hb hby own_d28_47) k) ?_
        show own_Gl _ _ _ _ _ _ _ (T30.setTop (mkF m 48 #[.val (.ref a), .val (.int 32), .val (.long (9223372036854775807 : Int64)), .second, .val (.ref ob), .val (.ref sb), .val (.int ii)] [(.long (0 : Int64)), (.long (ofs (f mm)))]))
        refine own_st (fun _ k => XS.lcmp X30.here hx rfl (hb hby own_d28_48) rfl k) ?_
        by_cases hc49 : (ofs (f mm)) = (0 : Int64)
        · have hz0 : f mm = 0 := (hof9 _ (hok.le mm)).1.mp hc49
          have hcn : own_cnt f mm = own_cnt f (mm + 1) := by rw [own_cnt_succ, if_pos hz0]; rfl
          refine own_st (fun _ k => XS.ifYes X30.here hx rfl (pc0 := 49) (pc' := 86) rfl (hb hby own_d28_49) rfl ((if0 _ _).trans (teq ((lw_eq _ _).mpr hc49)).1) (by decide) (by decide) k) ?_
          refine own_st (fun _ k => XS.iinc X30.here hx rfl (hb hby own_d28_86) rfl (l' := #[.val (.ref a), .val (.int 32), .val (.long (9223372036854775807 : Int64)), .second, .val (.ref ob), .val (.ref sb), .val (.int (ii + (1 : Int32)))]) rfl k) ?_
          refine own_st (fun _ k => XS.goto X30.here hx rfl (pc0 := 89) (pc' := 34) rfl (hb hby own_d28_89) (by decide) (by decide) k) ?_
          show own_Gl _ _ _ _ _ _ _ (T30.setTop (mkF m 34 #[.val (.ref a), .val (.int 32), .val (.long (9223372036854775807 : Int64)), .second, .val (.ref ob), .val (.ref sb), .val (.int (ii + (1 : Int32)))] []))
          show own_Gl _ _ _ _ _ _ _ (T30.setTop (mkF m 34 #[.val (.ref a), .val (.int 32), .val (.long (9223372036854775807 : Int64)), .second, .val (.ref ob), .val (.ref sb), .val (.int (ii + (1 : Int32)))] []))
          exact ih30 _ (by omega) T30 _ N30 X30 _ e30 ((mm + 1)) ((ii + (1 : Int32))) (sz2) (f2) Zs30 Kj30 fj30_0 fj30_1 fj30_2 fj30_3 fj30_4 fj30_5 fj30_6 fj30_7 hmm (by rw [hii]; exact own_m1 _ (by omega)) (own_ok_iff hok2 (fun j => own_SRno f mm j hz0) hcn) (by rw [← hcn]; exact hsz) rfl
        · have hz0 : f mm ≠ 0 := fun q => hc49 ((hof9 _ (hok.le mm)).1.mpr q)
          have hcn : own_cnt f mm + 1 = own_cnt f (mm + 1) := by rw [own_cnt_succ, if_neg hz0]
          obtain ⟨t, -, ht0, htn⟩ := own_gap hok2.cnt (show own_cnt f mm < (32 : Int32).toNatClampNeg from Nat.lt_of_le_of_lt (own_cnt_le f mm) (Nat.lt_of_le_of_lt hm (by decide))) (own_q hs (32 : Int32) (f mm)) (own_q_lt hs _ _ (Or.inr rfl))
          refine own_st (fun _ k => XS.ifNo X30.here hx rfl (hb hby own_d28_49) rfl ((if0 _ _).trans (feq (mt (lw_eq _ _).mp hc49)).1) k) ?_
          refine own_st (fun _ k => XS.aload X30.here hx rfl (hb hby own_d28_52) rfl rfl k) ?_
          refine own_st (fun _ k => XS.iload X30.here hx rfl (hb hby own_d28_54) rfl k) ?_
          show own_Gl _ _ _ _ _ _ _ (T30.setTop (mkF m 56 #[.val (.ref a), .val (.int 32), .val (.long (9223372036854775807 : Int64)), .second, .val (.ref ob), .val (.ref sb), .val (.int ii)] [(.int ii), (.ref ob)]))
          obtain ⟨cl33, Ar33, qq33, Ss33, Nn33, Hh33, Gg33⟩ := id fj30_6
          have hin33 : ¬ (ii < 0 ∨ cl33.slots.size ≤ (ii).toNatClampNeg) := inb_of Ss33 hix
          have hat33 : cl33.slots[(ii).toNatClampNeg]? = some (.long (ofs (f mm))) := Hh33.at hin33 (by rw [hnat]; exact own_fj_get _ _ _ _ hmm)
          refine own_st (X30.laload hx (j := ii) (v := (.long (ofs (f mm)))) (by rw [e30]; exact Ar33.1) (State.isArrayOf_alike hZ.alike Ar33.2.1) Ar33.2.2 hin33 hat33 (g := (mkF m 56 #[.val (.ref a), .val (.int 32), .val (.long (9223372036854775807 : Int64)), .second, .val (.ref ob), .val (.ref sb), .val (.int ii)] [(.int ii), (.ref ob)])) rfl rfl (hb hby own_d28_56)) ?_
          refine own_st (fun _ k => XS.lloadN X30.here hx rfl (hb hby own_d28_57) rfl k) ?_
          refine own_st (fun _ k => XS.lcmp X30.here hx rfl (hb hby own_d28_58) rfl k) ?_
          have hd34 : (ofs (f mm)) < (9223372036854775807 : Int64) := (hof9 _ (hok.le mm)).2
          refine own_st (fun _ k => XS.ifNo X30.here hx rfl (hb hby own_d28_59) rfl ((if0 _ _).trans (tlt ((lw_lt _ _).mpr hd34)).2.1) k) ?_
          show own_Gl _ _ _ _ _ _ _ (T30.setTop (mkF m 62 #[.val (.ref a), .val (.int 32), .val (.long (9223372036854775807 : Int64)), .second, .val (.ref ob), .val (.ref sb), .val (.int ii)] []))
          refine own_st (fun _ k => XS.aloadN X30.here hx rfl (hb hby own_d28_62) rfl rfl k) ?_
          refine own_st (fun _ k => XS.aload X30.here hx rfl (hb hby own_d28_63) rfl rfl k) ?_
          refine own_st (fun _ k => XS.iload X30.here hx rfl (hb hby own_d28_65) rfl k) ?_
          obtain ⟨cl35, Ar35, qq35, Ss35, Nn35, Hh35, Gg35⟩ := id fj30_7
          have hin35 : ¬ (ii < 0 ∨ cl35.slots.size ≤ (ii).toNatClampNeg) := inb_of Ss35 hix
          have hat35 : cl35.slots[(ii).toNatClampNeg]? = some (.int (hs (f mm))) := Hh35.at hin35 (by rw [hnat]; exact own_fl_get _ _ _ _ hmm)
          refine own_st (X30.iaload hx (j := ii) (v := (.int (hs (f mm)))) (by rw [e30]; exact Ar35.1) (State.isArrayOf_alike hZ.alike Ar35.2.1) Ar35.2.2 hin35 hat35 (g := (mkF m 67 #[.val (.ref a), .val (.int 32), .val (.long (9223372036854775807 : Int64)), .second, .val (.ref ob), .val (.ref sb), .val (.int ii)] [(.int ii), (.ref sb), (.ref a)])) rfl rfl (hb hby own_d28_67)) ?_
          show own_Gl _ _ _ _ _ _ _ (T30.setTop (mkF m 68 #[.val (.ref a), .val (.int 32), .val (.long (9223372036854775807 : Int64)), .second, .val (.ref ob), .val (.ref sb), .val (.int ii)] [(.int (hs (f mm))), (.ref a)]))
          refine own_st (fun _ k => XS.aload X30.here hx rfl (hb hby own_d28_68) rfl rfl k) ?_
          refine own_st (fun _ k => XS.iload X30.here hx rfl (hb hby own_d28_70) rfl k) ?_
          obtain ⟨cl36, Ar36, qq36, Ss36, Nn36, Hh36, Gg36⟩ := id fj30_6
          have hin36 : ¬ (ii < 0 ∨ cl36.slots.size ≤ (ii).toNatClampNeg) := inb_of Ss36 hix
          have hat36 : cl36.slots[(ii).toNatClampNeg]? = some (.long (ofs (f mm))) := Hh36.at hin36 (by rw [hnat]; exact own_fj_get _ _ _ _ hmm)
          refine own_st (X30.laload hx (j := ii) (v := (.long (ofs (f mm)))) (by rw [e30]; exact Ar36.1) (State.isArrayOf_alike hZ.alike Ar36.2.1) Ar36.2.2 hin36 hat36 (g := (mkF m 72 #[.val (.ref a), .val (.int 32), .val (.long (9223372036854775807 : Int64)), .second, .val (.ref ob), .val (.ref sb), .val (.int ii)] [(.int ii), (.ref ob), (.int (hs (f mm))), (.ref a)])) rfl rfl (hb hby own_d28_72)) ?_
          obtain ⟨cq37, q37, qq37⟩ := fj30_0.cell
          obtain ⟨_, _, ⟨T37, L37, k37, n37⟩, -, X37, ⟨Lc37, hQ37, l37, y37, z37⟩, st37⟩ := X30.privateBack hx (y := oM3) hown (mvT hZ (oW hw 28 rfl)) (mvT hZ (oW hw 29 rfl)) (own_selpriv hZ (oW hw 3 rfl) (oW hw 30 rfl) (oW hw 29 rfl) (by decide)) (Cond.privateMethod_at (mvP hZ (oW hw 30 rfl) (args := #[]))) (mvT hZ (oW hw 31 rfl)) (by decide) (backOf (W := 0) (own_place l Z a0 hw [] a (hs (f mm)) (ofs (f mm)) b3 b15 k3 k15 (32 : Int32) f2 ofs hs (f mm) t h30 n0 Zs30 fj30_0 fj30_1 fj30_2 fj30_4 fj30_5 g_b3 g_b15 ne_b3_b15 ne_a_b3 ne_a_b15 (Or.inr rfl) rfl rfl (fun p => (hof9 _ (hok2.le p)).1) ht0 htn) hZ (oW hw 31 rfl) (oW hw 4 rfl) (by decide) (by decide)) (g := (mkF m 73 #[.val (.ref a), .val (.int 32), .val (.long (9223372036854775807 : Int64)), .second, .val (.ref ob), .val (.ref sb), .val (.int ii)] [(.long (ofs (f mm))), (.int (hs (f mm))), (.ref a)])) rfl (by rw [hml]; rfl) (Steps.refl _) (a := a) (by rw [e30]; exact q37) qq37 (argsL := [(.int (hs (f mm))), (.long (ofs (f mm)))]) (rest := []) (lenOf own_pd945382854 rfl) rfl (by show 2 * 0 + _ ≤ _; exact Nat.le_of_eq rfl) (hb hby own_d28_73) (fun _ _ => ⟨rfl, e30, (by decide : 2 + 0 ≤ 2), (by decide : 64 + 0 ≤ 64)⟩)
          dsimp only [Pt.U, Pt.locs, Pt.cells, Pt.slots] at X37 l37 y37 z37 st37 hQ37
          subst l37 y37 z37
          obtain ⟨hh37, eh037⟩ : ∃ z, T37.heap = z := ⟨_, rfl⟩
          rw [eh037] at hQ37
          obtain ⟨rfl, Nq37, Kq37, P37_0, P37_1⟩ := hQ37
          have N37 := Fr.app N30 Nq37
          refine own_tr st37 ?_
          have Zs38 : n0 ≤ hh37.size := Nat.le_trans Zs30 Kq37.1
          show own_Gl _ _ _ _ _ _ _ (T37.setTop (mkF m 76 #[.val (.ref a), .val (.int 32), .val (.long (9223372036854775807 : Int64)), .second, .val (.ref ob), .val (.ref sb), .val (.int ii)] []))
          refine own_st (fun _ k => XS.aloadN X37.here hx rfl (hb hby own_d28_76) rfl rfl k) ?_
          refine own_st (fun _ k => XS.dup X37.here hx rfl (hb hby own_d28_77) rfl rfl k) ?_
          have f39 := (fj30_3.keep Kq37 (ninS ne_a_b3 (ninS ne_a_b15 nin0)))
          obtain ⟨T40, X40, e40, st40⟩ := getF X37 hx hZ hown (host := "") (Or.inl (oW hw 26 rfl)) Via.refl eh037 f39 (g := (mkF m 78 #[.val (.ref a), .val (.int 32), .val (.long (9223372036854775807 : Int64)), .second, .val (.ref ob), .val (.ref sb), .val (.int ii)] [(.ref a), (.ref a)])) rfl rfl (hb hby own_d28_78)
          refine own_st st40 ?_
          refine own_st (fun _ k => XS.iconst X40.here hx rfl (hb hby own_d28_81) k) ?_
          show own_Gl _ _ _ _ _ _ _ (T40.setTop (mkF m 82 #[.val (.ref a), .val (.int 32), .val (.long (9223372036854775807 : Int64)), .second, .val (.ref ob), .val (.ref sb), .val (.int ii)] [(.int 1), (.int sz2), (.ref a)]))
          refine own_st (fun _ k => XS.iadd X40.here hx rfl (hb hby own_d28_82) rfl k) ?_
          have f41 := (fj30_0.keep Kq37)
          obtain ⟨T42, h42, X42, e42, W42, st42⟩ := putF X40 hx hZ hown (host := "") (Or.inl (oW hw 26 rfl)) Via.refl e40 f39 f41 (Or.inl (oW hw 27 rfl)) (oW hw 3 rfl) (ty := .int) (by decide) rfl rfl (g := (mkF m 83 #[.val (.ref a), .val (.int 32), .val (.long (9223372036854775807 : Int64)), .second, .val (.ref ob), .val (.ref sb), .val (.int ii)] [(.int (sz2 + (1 : Int32))), (.ref a)])) rfl rfl (hb hby own_d28_83)
          have N42 := Fr.snoc X42 N37 g_a
          refine own_st st42 ?_
          have Zs43 : n0 ≤ h42.size := Nat.le_trans Zs38 (Keep.of_wr W42).1
          have Fw42 := f39.same W42
          refine own_st (fun _ k => XS.iinc X42.here hx rfl (hb hby own_d28_86) rfl (l' := #[.val (.ref a), .val (.int 32), .val (.long (9223372036854775807 : Int64)), .second, .val (.ref ob), .val (.ref sb), .val (.int (ii + (1 : Int32)))]) rfl k) ?_
          refine own_st (fun _ k => XS.goto X42.here hx rfl (pc0 := 89) (pc' := 34) rfl (hb hby own_d28_89) (by decide) (by decide) k) ?_
          show own_Gl _ _ _ _ _ _ _ (T42.setTop (mkF m 34 #[.val (.ref a), .val (.int 32), .val (.long (9223372036854775807 : Int64)), .second, .val (.ref ob), .val (.ref sb), .val (.int (ii + (1 : Int32)))] []))
          have K44 : Keep h0 h42 [a] := ((Kj30.trans Kq37 (allS (Or.inr gh_b3) (allS (Or.inr gh_b15) all0))).wr W42 (Or.inl (List.mem_of_getElem? (i := 0) rfl)))
          have f45 := (f41.wr W42)
          have f46 := ((fj30_1.keep Kq37 (ninS ne_a_b3 (ninS ne_a_b15 nin0))).other W42 (Or.inr (slot_ne (Or.inl (oW hw 13 rfl)) (Or.inl (oW hw 27 rfl)) (by decide) (t := (.array .long)) (t' := .int) (by decide) (by decide))))
          have f47 := ((fj30_2.keep Kq37 (ninS ne_a_b3 (ninS ne_a_b15 nin0))).other W42 (Or.inr (slot_ne (Or.inl (oW hw 16 rfl)) (Or.inl (oW hw 27 rfl)) (by decide) (t := (.array .int)) (t' := .int) (by decide) (by decide))))
          have f48 := (P37_0.other W42 (Ne.symm ne_a_b3))
          have f49 := (P37_1.other W42 (Ne.symm ne_a_b15))
          have f50 := ((fj30_6.keep Kq37 (ninS ne_ob_b3 (ninS ne_ob_b15 nin0))).other W42 (Ne.symm ne_a_ob))
          have f51 := ((fj30_7.keep Kq37 (ninS ne_sb_b3 (ninS ne_sb_b15 nin0))).other W42 (Ne.symm ne_a_sb))
          show own_Gl _ _ _ _ _ _ _ (T42.setTop (mkF m 34 #[.val (.ref a), .val (.int 32), .val (.long (9223372036854775807 : Int64)), .second, .val (.ref ob), .val (.ref sb), .val (.int (ii + (1 : Int32)))] []))
          exact ih30 _ (by omega) T42 _ N42 X42 _ e42 ((mm + 1)) ((ii + (1 : Int32))) ((sz2 + (1 : Int32))) ((fun p => if p = (own_q hs (32 : Int32) (f mm) + t) % (32 : Int32).toNatClampNeg then f mm else f2 p)) Zs43 K44 f45 f46 f47 Fw42 f48 f49 f50 f51 hmm (by rw [hii]; exact own_m1 _ (by omega)) (own_ok_iff (own_put hok2 (by decide) (f mm) t ht0 htn (own_SRnew hok hz0) ⟨Nat.pos_of_ne_zero hz0, hok.le mm⟩) (fun j => own_SRyes f mm j hz0) hcn) (by rw [← hcn, hsz]; exact own_m1 _ (by have := own_cnt_le f mm; omega)) rfl
      · have hme : mm = 16 := by
          have q : ¬ mm < 16 := fun q => hc39 (hii ▸ (own_m16 mm hm).1.mpr q)
          omega
        have hs8 : sz2 = (8 : Int32) := by rw [hsz, hme]; exact congrArg Int32.ofNat hok.cnt
        have hok3 := own_ok_iff (hme ▸ hok2) (own_SRend hok) hok.cnt
        refine own_st (fun _ k => XS.icmpYes X30.here hx rfl (pc0 := 39) (pc' := 92) rfl (hb hby own_d28_39) rfl (flt hc39).2.1 (by decide) (by decide) k) ?_
        show own_Gl _ _ _ _ _ _ _ (T30.setTop (mkF m 92 #[.val (.ref a), .val (.int 32), .val (.long (9223372036854775807 : Int64)), .second, .val (.ref ob), .val (.ref sb), .val (.int ii)] []))
        rw [hs8] at fj30_3
        exact own_retV X30 hx hlk hret (hb hby own_d28_92) e30 ⟨b3, b15, k3, k15, f2, rfl, N30, Kj30, g_b3, gh_b3, g_b15, gh_b15, ne_b3_b15, fj30_1, fj30_2, fj30_3, fj30_4, fj30_5, hok3⟩ (by decide) (by decide)
  have K52 : Keep h0 h24 [a] := (((K14.ext E15).wr W20 (Or.inl (List.mem_of_getElem? (i := 0) rfl))).wr W24 (Or.inl (List.mem_of_getElem? (i := 0) rfl)))
  have f53 := (f22.wr W24)
  have f54 := (((Fw8.ext E15).other W20 (Or.inr (slot_ne (Or.inl (oW hw 13 rfl)) (Or.inl (oW hw 16 rfl)) (by decide) (t := (.array .long)) (t' := (.array .int)) (by decide) (by decide)))).other W24 (Or.inr (slot_ne (Or.inl (oW hw 13 rfl)) (Or.inl (oW hw 27 rfl)) (by decide) (t := (.array .long)) (t' := .int) (by decide) (by decide))))
  have f55 := (Fw20.other W24 (Or.inr (slot_ne (Or.inl (oW hw 16 rfl)) (Or.inl (oW hw 27 rfl)) (by decide) (t := (.array .int)) (t' := .int) (by decide) (by decide))))
  have f56 := (((f11.ext E15).other W20 (Ne.symm ne_a_ob)).other W24 (Ne.symm ne_a_ob))
  have f57 := (((f12.ext E15).other W20 (Ne.symm ne_a_sb)).other W24 (Ne.symm ne_a_sb))
  show own_Gl _ _ _ _ _ _ _ (T24.setTop (mkF m 34 #[.val (.ref a), .val (.int 32), .val (.long (9223372036854775807 : Int64)), .second, .val (.ref ob), .val (.ref sb), .val (.int 0)] []))
  exact J34_30 _ T24 _ N24 X24 _ e24 (0) ((0 : Int32)) ((0 : Int32)) ((fun _ => 0)) Zs25 K52 f53 f54 f55 Fw24 Vz27 Vz29 f56 f57 (Nat.zero_le _) rfl (own_ok_iff (own_ok_new _ _) (own_SR0 f) rfl) rfl rfl
theorem own_d4_0 : decode prog_40_method_2_code 0 = .ok (.iconst 2, 1) := by decide +kernel
theorem own_d4_1 : decode prog_40_method_2_code 1 = .ok (.aload_n 0, 1) := by decide +kernel
theorem own_d4_2 : decode prog_40_method_2_code 2 = .ok (.getfield 17, 3) := by decide +kernel
theorem own_d4_5 : decode prog_40_method_2_code 5 = .ok (.iconst 1, 1) := by decide +kernel
theorem own_d4_6 : decode prog_40_method_2_code 6 = .ok (.iadd, 1) := by decide +kernel
theorem own_d4_7 : decode prog_40_method_2_code 7 = .ok (.imul, 1) := by decide +kernel
theorem own_d4_8 : decode prog_40_method_2_code 8 = .ok (.aload_n 0, 1) := by decide +kernel
theorem own_d4_9 : decode prog_40_method_2_code 9 = .ok (.getfield 7, 3) := by decide +kernel
theorem own_d4_12 : decode prog_40_method_2_code 12 = .ok (.arraylength, 1) := by decide +kernel
theorem own_d4_13 : decode prog_40_method_2_code 13 = .ok (.if_icmp .le 17, 3) := by decide +kernel
theorem own_d4_30 : decode prog_40_method_2_code 30 = .ok (.aload_n 0, 1) := by decide +kernel
theorem own_d4_31 : decode prog_40_method_2_code 31 = .ok (.iload_n 1, 1) := by decide +kernel
theorem own_d4_32 : decode prog_40_method_2_code 32 = .ok (.lload_n 2, 1) := by decide +kernel
theorem own_d4_33 : decode prog_40_method_2_code 33 = .ok (.invokevirtual 29, 3) := by decide +kernel
theorem own_d4_36 : decode prog_40_method_2_code 36 = .ok (.aload_n 0, 1) := by decide +kernel
theorem own_d4_37 : decode prog_40_method_2_code 37 = .ok (.dup, 1) := by decide +kernel
theorem own_d4_38 : decode prog_40_method_2_code 38 = .ok (.getfield 17, 3) := by decide +kernel
theorem own_d4_41 : decode prog_40_method_2_code 41 = .ok (.iconst 1, 1) := by decide +kernel
theorem own_d4_42 : decode prog_40_method_2_code 42 = .ok (.iadd, 1) := by decide +kernel
theorem own_d4_43 : decode prog_40_method_2_code 43 = .ok (.putfield 17, 3) := by decide +kernel
theorem own_d4_46 : decode prog_40_method_2_code 46 = .ok (.return_, 1) := by decide +kernel
theorem own_ef_own_add (m : MethodId) (x0 : Addr) (x1 : Int32) (x2 : Int64) : entryFrame m #[(.ref x0), (.int x1), (.long x2)] 4 = mkF m 0 #[.val (.ref x0), .val (.int x1), .val (.long x2), .second] [] := by first | (simp [entryFrame, mkF, argsToLocals, Value.category]; done) | rfl
def own_Q_own_add (Z : State) (a : Addr) (x : Int32) (o : Int64) (ob : Addr) (sb : Addr) (ko : ClassId) (kh : ClassId) (sz : Int32) (sz2 : Int32) (f : Nat → Nat) (ofs : Nat → Int64) (hs : Nat → Int32) (n : Nat) (h0 : Heap) (n0 : Nat) (v : Option Value) (h : Heap) (L : List Loc) : Prop := ∃ (f2 : Nat → Nat), (v = none) ∧ (Fr n0 L) ∧ (Keep h0 h [a, ob, sb]) ∧ (Fld Z h a "com/example/assayline/assayline/core/MessageIndex" "offsets" "[J" (.ref ob)) ∧ (Fld Z h a "com/example/assayline/assayline/core/MessageIndex" "hashes" "[I" (.ref sb)) ∧ (Fld Z h a "com/example/assayline/assayline/core/MessageIndex" "size" "I" (.int sz2)) ∧ (Arv Z h ob ko .long (16 : Int32) (own_fj (16 : Int32).toNatClampNeg (fun p => ofs (f2 p))) (.long (0 : Int64))) ∧ (Arv Z h sb kh .int (16 : Int32) (own_fl (16 : Int32).toNatClampNeg (fun p => hs (f2 p))) (.int 0)) ∧ (own_ok (own_q hs (16 : Int32)) (16 : Int32).toNatClampNeg f2 (own_S (n + 1)) (n + 1))

theorem own_add (l : Launch) (Z : State) (a0 : Array Value) (hw : oT a0 Z) (ws : List Jvm.Cond) (a : Addr) (x : Int32) (o : Int64) (ob : Addr) (sb : Addr) (ko : ClassId) (kh : ClassId) (sz : Int32) (sz2 : Int32) (f : Nat → Nat) (ofs : Nat → Int64) (hs : Nat → Int32) (n : Nat) (h0 : Heap) (n0 : Nat) (Z0 : n0 ≤ h0.size) (E_a : Exa Z h0 a "com/example/assayline/assayline/core/MessageIndex") (F_a_offsets : Fld Z h0 a "com/example/assayline/assayline/core/MessageIndex" "offsets" "[J" (.ref ob)) (F_a_hashes : Fld Z h0 a "com/example/assayline/assayline/core/MessageIndex" "hashes" "[I" (.ref sb)) (F_a_size : Fld Z h0 a "com/example/assayline/assayline/core/MessageIndex" "size" "I" (.int sz)) (V_ob : Arv Z h0 ob ko .long (16 : Int32) (own_fj (16 : Int32).toNatClampNeg (fun p => ofs (f p))) (.long (0 : Int64))) (V_sb : Arv Z h0 sb kh .int (16 : Int32) (own_fl (16 : Int32).toNatClampNeg (fun p => hs (f p))) (.int 0)) (g_a : n0 ≤ a) (g_ob : n0 ≤ ob) (g_sb : n0 ≤ sb) (ne_ob_sb : ob ≠ sb) (ne_a_ob : a ≠ ob) (ne_a_sb : a ≠ sb) (hof9 : ∀ i, i ≤ 9 → (ofs i = 0 ↔ i = 0) ∧ ofs i < (9223372036854775807 : Int64)) (hok : own_ok (own_q hs (16 : Int32)) (16 : Int32).toNatClampNeg f (own_S n) n) (hn : n ≤ 7) (hxj : x = hs (n + 1)) (hoj : o = ofs (n + 1)) (hsn : sz = Int32.ofNat n) (hs2 : sz + (1 : Int32) = sz2) :
    oMet l oM5 prog_40_method_2_code 4 none ws ⟨2, 0, 0, 29⟩ #[(.ref a), (.int x), (.long o)] Z h0 (own_Q_own_add Z a x o ob sb ko kh sz sz2 f ofs hs n h0 n0) := by
  refine oB n0 "com/example/assayline/assayline/core/MessageIndex" rfl (plainFor_of_name own_pn368460841) (fun m => own_ef_own_add m a x o) ?_
  intro p e s m below meth c s₁ hZ hx hby hlk hret hml hown hnm X0 e0 N0
  obtain ⟨t, -, ht0, htn⟩ := own_gap hok.cnt (show n < (16 : Int32).toNatClampNeg from Nat.lt_of_le_of_lt hn (by decide)) (own_q hs (16 : Int32) (n + 1)) (own_q_lt hs _ _ (Or.inl rfl))
  show own_Gl _ _ _ _ _ _ _ (s₁.setTop (mkF m 0 #[.val (.ref a), .val (.int x), .val (.long o), .second] []))
  refine own_st (fun _ k => XS.iconst X0.here hx rfl (hb hby own_d4_0) k) ?_
  refine own_st (fun _ k => XS.aloadN X0.here hx rfl (hb hby own_d4_1) rfl rfl k) ?_
  obtain ⟨T1, X1, e1, st1⟩ := getF X0 hx hZ hown (host := "") (Or.inl (oW hw 26 rfl)) Via.refl e0 F_a_size (g := (mkF m 2 #[.val (.ref a), .val (.int x), .val (.long o), .second] [(.ref a), (.int 2)])) rfl rfl (hb hby own_d4_2)
  refine own_st st1 ?_
  refine own_st (fun _ k => XS.iconst X1.here hx rfl (hb hby own_d4_5) k) ?_
  show own_Gl _ _ _ _ _ _ _ (T1.setTop (mkF m 6 #[.val (.ref a), .val (.int x), .val (.long o), .second] [(.int 1), (.int sz), (.int 2)]))
  refine own_st (fun _ k => XS.iadd X1.here hx rfl (hb hby own_d4_6) rfl k) ?_
  refine own_st (fun _ k => XS.imul X1.here hx rfl (hb hby own_d4_7) rfl k) ?_
  refine own_st (fun _ k => XS.aloadN X1.here hx rfl (hb hby own_d4_8) rfl rfl k) ?_
  obtain ⟨T2, X2, e2, st2⟩ := getF X1 hx hZ hown (host := "") (Or.inl (oW hw 12 rfl)) Via.refl e1 F_a_offsets (g := (mkF m 9 #[.val (.ref a), .val (.int x), .val (.long o), .second] [(.ref a), (.int ((2 : Int32) * (sz + (1 : Int32))))])) rfl rfl (hb hby own_d4_9)
  refine own_st st2 ?_
  show own_Gl _ _ _ _ _ _ _ (T2.setTop (mkF m 12 #[.val (.ref a), .val (.int x), .val (.long o), .second] [(.ref ob), (.int ((2 : Int32) * (sz + (1 : Int32))))]))
  obtain ⟨cl3, Ar3, qq3, Ss3, Nn3, Hh3, Gg3⟩ := id V_ob
  refine own_st (X2.arraylength hx (by rw [e2]; exact Ar3.1) (State.isArrayOf_alike hZ.alike Ar3.2.1) (g := (mkF m 12 #[.val (.ref a), .val (.int x), .val (.long o), .second] [(.ref ob), (.int ((2 : Int32) * (sz + (1 : Int32))))])) rfl rfl (hb hby own_d4_12)) ?_
  rw [len_of Ss3 Nn3]
  have hd4 : ¬ ((16 : Int32) < ((2 : Int32) * (sz + (1 : Int32)))) := own_cap hsn hn
  refine own_st (fun _ k => XS.icmpYes X2.here hx rfl (pc0 := 13) (pc' := 30) rfl (hb hby own_d4_13) rfl (flt hd4).2.2.2 (by decide) (by decide) k) ?_
  refine own_st (fun _ k => XS.aloadN X2.here hx rfl (hb hby own_d4_30) rfl rfl k) ?_
  refine own_st (fun _ k => XS.iloadN X2.here hx rfl (hb hby own_d4_31) rfl k) ?_
  show own_Gl _ _ _ _ _ _ _ (T2.setTop (mkF m 32 #[.val (.ref a), .val (.int x), .val (.long o), .second] [(.int x), (.ref a)]))
  refine own_st (fun _ k => XS.lloadN X2.here hx rfl (hb hby own_d4_32) rfl k) ?_
  obtain ⟨cq5, q5, qq5⟩ := E_a.cell
  obtain ⟨_, _, ⟨T5, L5, k5, n5⟩, -, X5, ⟨Lc5, hQ5, l5, y5, z5⟩, st5⟩ := X2.privateBack hx (y := oM3) hown (mvT hZ (oW hw 28 rfl)) (mvT hZ (oW hw 29 rfl)) (own_selpriv hZ (oW hw 3 rfl) (oW hw 30 rfl) (oW hw 29 rfl) (by decide)) (Cond.privateMethod_at (mvP hZ (oW hw 30 rfl) (args := #[]))) (mvT hZ (oW hw 31 rfl)) (by decide) (backOf (W := 0) (own_place l Z a0 hw [] a x o ob sb ko kh (16 : Int32) f ofs hs (n + 1) t h0 n0 Z0 E_a F_a_offsets F_a_hashes V_ob V_sb g_ob g_sb ne_ob_sb ne_a_ob ne_a_sb (Or.inl rfl) hxj hoj (fun p => (hof9 _ (hok.le p)).1) ht0 htn) hZ (oW hw 31 rfl) (oW hw 4 rfl) (by decide) (by decide)) (g := (mkF m 33 #[.val (.ref a), .val (.int x), .val (.long o), .second] [(.long o), (.int x), (.ref a)])) rfl (by rw [hml]; rfl) (Steps.refl _) (a := a) (by rw [e2]; exact q5) qq5 (argsL := [(.int x), (.long o)]) (rest := []) (lenOf own_pd945382854 rfl) rfl (by show 2 * 0 + _ ≤ _; exact Nat.le_of_eq rfl) (hb hby own_d4_33) (fun _ _ => ⟨rfl, e2, (by decide : 0 + 0 ≤ 0), (by decide : 0 + 0 ≤ 0)⟩)
  dsimp only [Pt.U, Pt.locs, Pt.cells, Pt.slots] at X5 l5 y5 z5 st5 hQ5
  subst l5 y5 z5
  obtain ⟨hh5, eh05⟩ : ∃ z, T5.heap = z := ⟨_, rfl⟩
  rw [eh05] at hQ5
  obtain ⟨rfl, Nq5, Kq5, P5_0, P5_1⟩ := hQ5
  have N5 := Fr.app N0 Nq5
  refine own_tr st5 ?_
  have Zs6 : n0 ≤ hh5.size := Nat.le_trans Z0 Kq5.1
  refine own_st (fun _ k => XS.aloadN X5.here hx rfl (hb hby own_d4_36) rfl rfl k) ?_
  refine own_st (fun _ k => XS.dup X5.here hx rfl (hb hby own_d4_37) rfl rfl k) ?_
  show own_Gl _ _ _ _ _ _ _ (T5.setTop (mkF m 38 #[.val (.ref a), .val (.int x), .val (.long o), .second] [(.ref a), (.ref a)]))
  have f7 := (F_a_size.keep Kq5 (ninS ne_a_ob (ninS ne_a_sb nin0)))
  obtain ⟨T8, X8, e8, st8⟩ := getF X5 hx hZ hown (host := "") (Or.inl (oW hw 26 rfl)) Via.refl eh05 f7 (g := (mkF m 38 #[.val (.ref a), .val (.int x), .val (.long o), .second] [(.ref a), (.ref a)])) rfl rfl (hb hby own_d4_38)
  refine own_st st8 ?_
  refine own_st (fun _ k => XS.iconst X8.here hx rfl (hb hby own_d4_41) k) ?_
  refine own_st (fun _ k => XS.iadd X8.here hx rfl (hb hby own_d4_42) rfl k) ?_
  have f9 := (E_a.keep Kq5)
  obtain ⟨T10, h10, X10, e10, W10, st10⟩ := putF X8 hx hZ hown (host := "") (Or.inl (oW hw 26 rfl)) Via.refl e8 f7 f9 (Or.inl (oW hw 27 rfl)) (oW hw 3 rfl) (ty := .int) (by decide) rfl rfl (g := (mkF m 43 #[.val (.ref a), .val (.int x), .val (.long o), .second] [(.int (sz + (1 : Int32))), (.ref a)])) rfl rfl (hb hby own_d4_43)
  have N10 := Fr.snoc X10 N5 g_a
  refine own_st st10 ?_
  have Zs11 : n0 ≤ h10.size := Nat.le_trans Zs6 (Keep.of_wr W10).1
  have Fw10 := f7.same W10
  show own_Gl _ _ _ _ _ _ _ (T10.setTop (mkF m 46 #[.val (.ref a), .val (.int x), .val (.long o), .second] []))
  have K12 : Keep h0 h10 [a, ob, sb] := (((Keep.refl h0 [a, ob, sb]).trans Kq5 (allS (Or.inl (List.mem_of_getElem? (i := 1) rfl)) (allS (Or.inl (List.mem_of_getElem? (i := 2) rfl)) all0))).wr W10 (Or.inl (List.mem_of_getElem? (i := 0) rfl)))
  have f13 := ((F_a_offsets.keep Kq5 (ninS ne_a_ob (ninS ne_a_sb nin0))).other W10 (Or.inr (slot_ne (Or.inl (oW hw 13 rfl)) (Or.inl (oW hw 27 rfl)) (by decide) (t := (.array .long)) (t' := .int) (by decide) (by decide))))
  have f14 := ((F_a_hashes.keep Kq5 (ninS ne_a_ob (ninS ne_a_sb nin0))).other W10 (Or.inr (slot_ne (Or.inl (oW hw 16 rfl)) (Or.inl (oW hw 27 rfl)) (by decide) (t := (.array .int)) (t' := .int) (by decide) (by decide))))
  have f15 := (P5_0.other W10 (Ne.symm ne_a_ob))
  have f16 := (P5_1.other W10 (Ne.symm ne_a_sb))
  exact own_retV X10 hx hlk hret (hb hby own_d4_46) e10 ⟨(fun p => if p = (own_q hs (16 : Int32) (n + 1) + t) % (16 : Int32).toNatClampNeg then n + 1 else f p), rfl, N10, K12, f13, f14, (hs2 ▸ Fw10), f15, f16, (own_put1 (Or.inl rfl) hok (by omega) ht0 htn)⟩ (by decide) (by decide)
theorem own_d4_16 : decode prog_40_method_2_code 16 = .ok (.aload_n 0, 1) := by decide +kernel
theorem own_d4_17 : decode prog_40_method_2_code 17 = .ok (.iconst 2, 1) := by decide +kernel
theorem own_d4_18 : decode prog_40_method_2_code 18 = .ok (.aload_n 0, 1) := by decide +kernel
theorem own_d4_19 : decode prog_40_method_2_code 19 = .ok (.getfield 7, 3) := by decide +kernel
theorem own_d4_22 : decode prog_40_method_2_code 22 = .ok (.arraylength, 1) := by decide +kernel
theorem own_d4_23 : decode prog_40_method_2_code 23 = .ok (.imul, 1) := by decide +kernel
theorem own_d4_24 : decode prog_40_method_2_code 24 = .ok (.ldc2_w 23, 3) := by decide +kernel
theorem own_d4_27 : decode prog_40_method_2_code 27 = .ok (.invokevirtual 25, 3) := by decide +kernel
theorem own_ef_own_add9 (m : MethodId) (x0 : Addr) (x1 : Int32) (x2 : Int64) : entryFrame m #[(.ref x0), (.int x1), (.long x2)] 4 = mkF m 0 #[.val (.ref x0), .val (.int x1), .val (.long x2), .second] [] := by first | (simp [entryFrame, mkF, argsToLocals, Value.category]; done) | rfl
def own_Q_own_add9 (Z : State) (a : Addr) (x : Int32) (o : Int64) (ob : Addr) (sb : Addr) (ko : ClassId) (kh : ClassId) (f : Nat → Nat) (ofs : Nat → Int64) (hs : Nat → Int32) (h0 : Heap) (n0 : Nat) (v : Option Value) (h : Heap) (L : List Loc) : Prop := ∃ (ob2 : Addr) (sb2 : Addr) (ko2 : ClassId) (kh2 : ClassId) (f2 : Nat → Nat), (v = none) ∧ (Fr n0 L) ∧ (Keep h0 h [a]) ∧ (n0 ≤ ob2) ∧ (h0.size ≤ ob2) ∧ (n0 ≤ sb2) ∧ (h0.size ≤ sb2) ∧ (ob2 ≠ sb2) ∧ (Fld Z h a "com/example/assayline/assayline/core/MessageIndex" "offsets" "[J" (.ref ob2)) ∧ (Fld Z h a "com/example/assayline/assayline/core/MessageIndex" "hashes" "[I" (.ref sb2)) ∧ (Fld Z h a "com/example/assayline/assayline/core/MessageIndex" "size" "I" (.int 9)) ∧ (Arv Z h ob2 ko2 .long (32 : Int32) (own_fj (32 : Int32).toNatClampNeg (fun p => ofs (f2 p))) (.long (0 : Int64))) ∧ (Arv Z h sb2 kh2 .int (32 : Int32) (own_fl (32 : Int32).toNatClampNeg (fun p => hs (f2 p))) (.int 0)) ∧ (own_ok (own_q hs (32 : Int32)) (32 : Int32).toNatClampNeg f2 (own_S 9) 9)

theorem own_add9 (l : Launch) (Z : State) (a0 : Array Value) (hw : oT a0 Z) (ws : List Jvm.Cond) (a : Addr) (x : Int32) (o : Int64) (ob : Addr) (sb : Addr) (ko : ClassId) (kh : ClassId) (f : Nat → Nat) (ofs : Nat → Int64) (hs : Nat → Int32) (h0 : Heap) (n0 : Nat) (Z0 : n0 ≤ h0.size) (E_a : Exa Z h0 a "com/example/assayline/assayline/core/MessageIndex") (F_a_offsets : Fld Z h0 a "com/example/assayline/assayline/core/MessageIndex" "offsets" "[J" (.ref ob)) (F_a_hashes : Fld Z h0 a "com/example/assayline/assayline/core/MessageIndex" "hashes" "[I" (.ref sb)) (F_a_size : Fld Z h0 a "com/example/assayline/assayline/core/MessageIndex" "size" "I" (.int 8)) (V_ob : Arv Z h0 ob ko .long (16 : Int32) (own_fj (16 : Int32).toNatClampNeg (fun p => ofs (f p))) (.long (0 : Int64))) (V_sb : Arv Z h0 sb kh .int (16 : Int32) (own_fl (16 : Int32).toNatClampNeg (fun p => hs (f p))) (.int 0)) (g_a : n0 ≤ a) (ne_a_ob : a ≠ ob) (ne_a_sb : a ≠ sb) (hof9 : ∀ i, i ≤ 9 → (ofs i = 0 ↔ i = 0) ∧ ofs i < (9223372036854775807 : Int64)) (hh0 : hs 0 = 0) (hok : own_ok (own_q hs (16 : Int32)) (16 : Int32).toNatClampNeg f (own_S 8) 8) (hxj : x = hs 9) (hoj : o = ofs 9) :
    oMet l oM5 prog_40_method_2_code 4 none ws ⟨3, 2, 64, 47⟩ #[(.ref a), (.int x), (.long o)] Z h0 (own_Q_own_add9 Z a x o ob sb ko kh f ofs hs h0 n0) := by
  refine oB n0 "com/example/assayline/assayline/core/MessageIndex" rfl (plainFor_of_name own_pn368460841) (fun m => own_ef_own_add9 m a x o) ?_
  intro p e s m below meth c s₁ hZ hx hby hlk hret hml hown hnm X0 e0 N0
  show own_Gl _ _ _ _ _ _ _ (s₁.setTop (mkF m 0 #[.val (.ref a), .val (.int x), .val (.long o), .second] []))
  refine own_st (fun _ k => XS.iconst X0.here hx rfl (hb hby own_d4_0) k) ?_
  refine own_st (fun _ k => XS.aloadN X0.here hx rfl (hb hby own_d4_1) rfl rfl k) ?_
  obtain ⟨T1, X1, e1, st1⟩ := getF X0 hx hZ hown (host := "") (Or.inl (oW hw 26 rfl)) Via.refl e0 F_a_size (g := (mkF m 2 #[.val (.ref a), .val (.int x), .val (.long o), .second] [(.ref a), (.int 2)])) rfl rfl (hb hby own_d4_2)
  refine own_st st1 ?_
  refine own_st (fun _ k => XS.iconst X1.here hx rfl (hb hby own_d4_5) k) ?_
  show own_Gl _ _ _ _ _ _ _ (T1.setTop (mkF m 6 #[.val (.ref a), .val (.int x), .val (.long o), .second] [(.int 1), (.int 8), (.int 2)]))
  refine own_st (fun _ k => XS.iadd X1.here hx rfl (hb hby own_d4_6) rfl k) ?_
  refine own_st (fun _ k => XS.imul X1.here hx rfl (hb hby own_d4_7) rfl k) ?_
  refine own_st (fun _ k => XS.aloadN X1.here hx rfl (hb hby own_d4_8) rfl rfl k) ?_
  obtain ⟨T2, X2, e2, st2⟩ := getF X1 hx hZ hown (host := "") (Or.inl (oW hw 12 rfl)) Via.refl e1 F_a_offsets (g := (mkF m 9 #[.val (.ref a), .val (.int x), .val (.long o), .second] [(.ref a), (.int 18)])) rfl rfl (hb hby own_d4_9)
  refine own_st st2 ?_
  show own_Gl _ _ _ _ _ _ _ (T2.setTop (mkF m 12 #[.val (.ref a), .val (.int x), .val (.long o), .second] [(.ref ob), (.int 18)]))
  obtain ⟨cl3, Ar3, qq3, Ss3, Nn3, Hh3, Gg3⟩ := id V_ob
  refine own_st (X2.arraylength hx (by rw [e2]; exact Ar3.1) (State.isArrayOf_alike hZ.alike Ar3.2.1) (g := (mkF m 12 #[.val (.ref a), .val (.int x), .val (.long o), .second] [(.ref ob), (.int 18)])) rfl rfl (hb hby own_d4_12)) ?_
  rw [len_of Ss3 Nn3]
  have hd4 : (16 : Int32) < (18 : Int32) := (by decide)
  refine own_st (fun _ k => XS.icmpNo X2.here hx rfl (hb hby own_d4_13) rfl (tlt hd4).2.2.2 k) ?_
  refine own_st (fun _ k => XS.aloadN X2.here hx rfl (hb hby own_d4_16) rfl rfl k) ?_
  refine own_st (fun _ k => XS.iconst X2.here hx rfl (hb hby own_d4_17) k) ?_
  show own_Gl _ _ _ _ _ _ _ (T2.setTop (mkF m 18 #[.val (.ref a), .val (.int x), .val (.long o), .second] [(.int 2), (.ref a)]))
  refine own_st (fun _ k => XS.aloadN X2.here hx rfl (hb hby own_d4_18) rfl rfl k) ?_
  obtain ⟨T5, X5, e5, st5⟩ := getF X2 hx hZ hown (host := "") (Or.inl (oW hw 12 rfl)) Via.refl e2 F_a_offsets (g := (mkF m 19 #[.val (.ref a), .val (.int x), .val (.long o), .second] [(.ref a), (.int 2), (.ref a)])) rfl rfl (hb hby own_d4_19)
  refine own_st st5 ?_
  obtain ⟨cl6, Ar6, qq6, Ss6, Nn6, Hh6, Gg6⟩ := id V_ob
  refine own_st (X5.arraylength hx (by rw [e5]; exact Ar6.1) (State.isArrayOf_alike hZ.alike Ar6.2.1) (g := (mkF m 22 #[.val (.ref a), .val (.int x), .val (.long o), .second] [(.ref ob), (.int 2), (.ref a)])) rfl rfl (hb hby own_d4_22)) ?_
  rw [len_of Ss6 Nn6]
  refine own_st (fun _ k => XS.imul X5.here hx rfl (hb hby own_d4_23) rfl k) ?_
  show own_Gl _ _ _ _ _ _ _ (T5.setTop (mkF m 24 #[.val (.ref a), .val (.int x), .val (.long o), .second] [(.int 32), (.ref a)]))
  refine own_st (X5.ldc2Long hx hown (mvT hZ (oW hw 175 rfl)) (g := (mkF m 24 #[.val (.ref a), .val (.int x), .val (.long o), .second] [(.int 32), (.ref a)])) rfl (hb hby own_d4_24)) ?_
  obtain ⟨cq7, q7, qq7⟩ := E_a.cell
  obtain ⟨_, _, ⟨T7, L7, k7, n7⟩, -, X7, ⟨Lc7, hQ7, l7, y7, z7⟩, st7⟩ := X5.privateBack hx (y := oM4) hown (mvT hZ (oW hw 176 rfl)) (mvT hZ (oW hw 177 rfl)) (own_selpriv hZ (oW hw 3 rfl) (oW hw 178 rfl) (oW hw 177 rfl) (by decide)) (Cond.privateMethod_at (mvP hZ (oW hw 178 rfl) (args := #[]))) (mvT hZ (oW hw 179 rfl)) (by decide) (backOf (W := 0) (own_rebuild l Z a0 hw [] a ob sb ko kh (8 : Int32) f ofs hs h0 n0 Z0 E_a F_a_offsets F_a_hashes F_a_size V_ob V_sb g_a ne_a_ob ne_a_sb hof9 hh0 hok) hZ (oW hw 179 rfl) (oW hw 4 rfl) (by decide) (by decide)) (g := (mkF m 27 #[.val (.ref a), .val (.int x), .val (.long o), .second] [(.long (9223372036854775807 : Int64)), (.int 32), (.ref a)])) rfl (by rw [hml]; rfl) (Steps.refl _) (a := a) (by rw [e5]; exact q7) qq7 (argsL := [(.int 32), (.long (9223372036854775807 : Int64))]) (rest := []) (lenOf own_pd945382854 rfl) rfl (by show 2 * 0 + _ ≤ _; exact Nat.le_of_eq rfl) (hb hby own_d4_27) (fun _ _ => ⟨rfl, e5, (by decide : 0 + 2 ≤ 2), (by decide : 0 + 64 ≤ 64)⟩)
  dsimp only [Pt.U, Pt.locs, Pt.cells, Pt.slots] at X7 l7 y7 z7 st7 hQ7
  subst l7 y7 z7
  obtain ⟨hh7, eh07⟩ : ∃ z, T7.heap = z := ⟨_, rfl⟩
  rw [eh07] at hQ7
  obtain ⟨ob2_7, sb2_7, ko2_7, kh2_7, f2_7, rfl, Nq7, Kq7, P7_0, P7_1, P7_2, P7_3, P7_4, P7_5, P7_6, P7_7, P7_8, P7_9, P7_10⟩ := hQ7
  have N7 := Fr.app N0 Nq7
  refine own_tr st7 ?_
  have Zs8 : n0 ≤ hh7.size := Nat.le_trans Z0 Kq7.1
  have gh_ob2_7 : h0.size ≤ ob2_7 := Nat.le_trans (Keep.refl h0 [a]).1 P7_1
  have ne_a_ob2_7 : a ≠ ob2_7 := Nat.ne_of_lt (Nat.lt_of_lt_of_le E_a.lt P7_1)
  have ne_ob_ob2_7 : ob ≠ ob2_7 := Nat.ne_of_lt (Nat.lt_of_lt_of_le V_ob.lt P7_1)
  have ne_sb_ob2_7 : sb ≠ ob2_7 := Nat.ne_of_lt (Nat.lt_of_lt_of_le V_sb.lt P7_1)
  have gh_sb2_7 : h0.size ≤ sb2_7 := Nat.le_trans (Keep.refl h0 [a]).1 P7_3
  have ne_a_sb2_7 : a ≠ sb2_7 := Nat.ne_of_lt (Nat.lt_of_lt_of_le E_a.lt P7_3)
  have ne_ob_sb2_7 : ob ≠ sb2_7 := Nat.ne_of_lt (Nat.lt_of_lt_of_le V_ob.lt P7_3)
  have ne_sb_sb2_7 : sb ≠ sb2_7 := Nat.ne_of_lt (Nat.lt_of_lt_of_le V_sb.lt P7_3)
  obtain ⟨t, -, ht0, htn⟩ := own_gap P7_10.cnt (by decide) (own_q hs (32 : Int32) 9) (own_q_lt hs _ _ (Or.inr rfl))
  refine own_st (fun _ k => XS.aloadN X7.here hx rfl (hb hby own_d4_30) rfl rfl k) ?_
  refine own_st (fun _ k => XS.iloadN X7.here hx rfl (hb hby own_d4_31) rfl k) ?_
  show own_Gl _ _ _ _ _ _ _ (T7.setTop (mkF m 32 #[.val (.ref a), .val (.int x), .val (.long o), .second] [(.int x), (.ref a)]))
  refine own_st (fun _ k => XS.lloadN X7.here hx rfl (hb hby own_d4_32) rfl k) ?_
  have f10 := (E_a.keep Kq7)
  have f11 := (V_ob.keep Kq7 (ninS (Ne.symm ne_a_ob) nin0))
  have f12 := (V_sb.keep Kq7 (ninS (Ne.symm ne_a_sb) nin0))
  obtain ⟨cq9, q9, qq9⟩ := f10.cell
  obtain ⟨_, _, ⟨T9, L9, k9, n9⟩, -, X9, ⟨Lc9, hQ9, l9, y9, z9⟩, st9⟩ := X7.privateBack hx (y := oM3) hown (mvT hZ (oW hw 28 rfl)) (mvT hZ (oW hw 29 rfl)) (own_selpriv hZ (oW hw 3 rfl) (oW hw 30 rfl) (oW hw 29 rfl) (by decide)) (Cond.privateMethod_at (mvP hZ (oW hw 30 rfl) (args := #[]))) (mvT hZ (oW hw 31 rfl)) (by decide) (backOf (W := 0) (own_place l Z a0 hw [] a x o ob2_7 sb2_7 ko2_7 kh2_7 (32 : Int32) f2_7 ofs hs 9 t hh7 n0 Zs8 f10 P7_5 P7_6 P7_8 P7_9 P7_0 P7_2 P7_4 ne_a_ob2_7 ne_a_sb2_7 (Or.inr rfl) hxj hoj (fun p => (hof9 _ (P7_10.le p)).1) ht0 htn) hZ (oW hw 31 rfl) (oW hw 4 rfl) (by decide) (by decide)) (g := (mkF m 33 #[.val (.ref a), .val (.int x), .val (.long o), .second] [(.long o), (.int x), (.ref a)])) rfl (by rw [hml]; rfl) (Steps.refl _) (a := a) (by rw [eh07]; exact q9) qq9 (argsL := [(.int x), (.long o)]) (rest := []) (lenOf own_pd945382854 rfl) rfl (by show 2 * 0 + _ ≤ _; exact Nat.le_of_eq rfl) (hb hby own_d4_33) (fun _ _ => ⟨rfl, eh07, (by decide : 2 + 0 ≤ 2), (by decide : 64 + 0 ≤ 64)⟩)
  dsimp only [Pt.U, Pt.locs, Pt.cells, Pt.slots] at X9 l9 y9 z9 st9 hQ9
  subst l9 y9 z9
  obtain ⟨hh9, eh09⟩ : ∃ z, T9.heap = z := ⟨_, rfl⟩
  rw [eh09] at hQ9
  obtain ⟨rfl, Nq9, Kq9, P9_0, P9_1⟩ := hQ9
  have N9 := Fr.app N7 Nq9
  refine own_tr st9 ?_
  have Zs13 : n0 ≤ hh9.size := Nat.le_trans Zs8 Kq9.1
  refine own_st (fun _ k => XS.aloadN X9.here hx rfl (hb hby own_d4_36) rfl rfl k) ?_
  refine own_st (fun _ k => XS.dup X9.here hx rfl (hb hby own_d4_37) rfl rfl k) ?_
  show own_Gl _ _ _ _ _ _ _ (T9.setTop (mkF m 38 #[.val (.ref a), .val (.int x), .val (.long o), .second] [(.ref a), (.ref a)]))
  have f14 := (P7_7.keep Kq9 (ninS ne_a_ob2_7 (ninS ne_a_sb2_7 nin0)))
  obtain ⟨T15, X15, e15, st15⟩ := getF X9 hx hZ hown (host := "") (Or.inl (oW hw 26 rfl)) Via.refl eh09 f14 (g := (mkF m 38 #[.val (.ref a), .val (.int x), .val (.long o), .second] [(.ref a), (.ref a)])) rfl rfl (hb hby own_d4_38)
  refine own_st st15 ?_
  refine own_st (fun _ k => XS.iconst X15.here hx rfl (hb hby own_d4_41) k) ?_
  refine own_st (fun _ k => XS.iadd X15.here hx rfl (hb hby own_d4_42) rfl k) ?_
  have f16 := (f10.keep Kq9)
  obtain ⟨T17, h17, X17, e17, W17, st17⟩ := putF X15 hx hZ hown (host := "") (Or.inl (oW hw 26 rfl)) Via.refl e15 f14 f16 (Or.inl (oW hw 27 rfl)) (oW hw 3 rfl) (ty := .int) (by decide) rfl rfl (g := (mkF m 43 #[.val (.ref a), .val (.int x), .val (.long o), .second] [(.int 9), (.ref a)])) rfl rfl (hb hby own_d4_43)
  have N17 := Fr.snoc X17 N9 g_a
  refine own_st st17 ?_
  have Zs18 : n0 ≤ h17.size := Nat.le_trans Zs13 (Keep.of_wr W17).1
  have Fw17 := f14.same W17
  show own_Gl _ _ _ _ _ _ _ (T17.setTop (mkF m 46 #[.val (.ref a), .val (.int x), .val (.long o), .second] []))
  have K19 : Keep h0 h17 [a] := ((((Keep.refl h0 [a]).trans Kq7 (allS (Or.inl (List.mem_of_getElem? (i := 0) rfl)) all0)).trans Kq9 (allS (Or.inr gh_ob2_7) (allS (Or.inr gh_sb2_7) all0))).wr W17 (Or.inl (List.mem_of_getElem? (i := 0) rfl)))
  have f20 := ((P7_5.keep Kq9 (ninS ne_a_ob2_7 (ninS ne_a_sb2_7 nin0))).other W17 (Or.inr (slot_ne (Or.inl (oW hw 13 rfl)) (Or.inl (oW hw 27 rfl)) (by decide) (t := (.array .long)) (t' := .int) (by decide) (by decide))))
  have f21 := ((P7_6.keep Kq9 (ninS ne_a_ob2_7 (ninS ne_a_sb2_7 nin0))).other W17 (Or.inr (slot_ne (Or.inl (oW hw 16 rfl)) (Or.inl (oW hw 27 rfl)) (by decide) (t := (.array .int)) (t' := .int) (by decide) (by decide))))
  have f22 := (P9_0.other W17 (Ne.symm ne_a_ob2_7))
  have f23 := (P9_1.other W17 (Ne.symm ne_a_sb2_7))
  exact own_retV X17 hx hlk hret (hb hby own_d4_46) e17 ⟨ob2_7, sb2_7, ko2_7, kh2_7, _, rfl, N17, K19, P7_0, gh_ob2_7, P7_2, gh_sb2_7, P7_4, f20, f21, Fw17, f22, f23, (own_put1 (n := 8) (Or.inr rfl) P7_10 (by omega) ht0 htn)⟩ (by decide) (by decide)

theorem own_idx {N : Int32} {n : Nat} (h : N = Int32.ofNat n) (hn : n ≤ 9) : (¬ N < 0 ∧ N < (10 : Int32)) ∧ N.toNatClampNeg = n ∧ ¬ N = (10 : Int32) := by
  subst h
  have q : ∀ m : Fin 10, (¬ Int32.ofNat m.1 < 0 ∧ Int32.ofNat m.1 < (10 : Int32)) ∧ (Int32.ofNat m.1).toNatClampNeg = m.1 ∧ ¬ Int32.ofNat m.1 = (10 : Int32) := by decide +kernel
  exact q ⟨n, by omega⟩

theorem own_d17_0 : decode jdk_18_method_1_code 0 = .ok (.aload_n 0, 1) := by decide +kernel
theorem own_d17_1 : decode jdk_18_method_1_code 1 = .ok (.invokespecial 1, 3) := by decide +kernel
theorem own_d17_4 : decode jdk_18_method_1_code 4 = .ok (.return_, 1) := by decide +kernel
theorem own_ef_own_number (m : MethodId) (x0 : Addr) : entryFrame m #[(.ref x0)] 1 = mkF m 0 #[.val (.ref x0)] [] := by first | (simp [entryFrame, mkF, argsToLocals, Value.category]; done) | rfl
def own_Q_own_number (Z : State) (a : Addr) (h0 : Heap) (n0 : Nat) (v : Option Value) (h : Heap) (L : List Loc) : Prop := (v = none) ∧ (Fr n0 L) ∧ (h = h0)
theorem own_pn239133130 : plainName "java/lang/Number" = true := by first | (simp [plainName, overriddenIn]; done) | decide +kernel

theorem own_number (l : Launch) (Z : State) (a0 : Array Value) (hw : oT a0 Z) (ws : List Jvm.Cond) (a : Addr) (h0 : Heap) (n0 : Nat) (Z0 : n0 ≤ h0.size) :
    oMet l oM6 jdk_18_method_1_code 1 none ws ⟨1, 0, 0, 12⟩ #[(.ref a)] Z h0 (own_Q_own_number Z a h0 n0) := by
  refine oB n0 "java/lang/Number" rfl (plainFor_of_name own_pn239133130) (fun m => own_ef_own_number m a) ?_
  intro p e s m below meth c s₁ hZ hx hby hlk hret hml hown hnm X0 e0 N0
  show own_Gl _ _ _ _ _ _ _ (s₁.setTop (mkF m 0 #[.val (.ref a)] []))
  refine own_st (fun _ k => XS.aloadN X0.here hx rfl (hb hby own_d17_0) rfl rfl k) ?_
  obtain ⟨T1, X1, e1, st1⟩ := initO X0 hx hZ hown (oW hw 112 rfl) (oW hw 9 rfl) (oW hw 10 rfl) e0 (g := (mkF m 1 #[.val (.ref a)] [(.ref a)])) rfl (by rw [hml]; rfl) rfl (hb hby own_d17_1) (by decide) (W := 0) (by show 2 * 0 + _ ≤ _; exact Nat.le_of_eq rfl) (by decide)
  refine own_st st1 ?_
  show own_Gl _ _ _ _ _ _ _ (T1.setTop (mkF m 4 #[.val (.ref a)] []))
  exact own_retV X1 hx hlk hret (hb hby own_d17_4) e1 ⟨rfl, N0, rfl⟩ (by decide) (by decide)
theorem own_d16_0 : decode jdk_35_method_26_code 0 = .ok (.aload_n 0, 1) := by decide +kernel
theorem own_d16_1 : decode jdk_35_method_26_code 1 = .ok (.invokespecial 270, 3) := by decide +kernel
theorem own_pd691897 : parseMethodDescriptor "()V" = some ⟨[], none⟩ := by decide +kernel
theorem own_d16_4 : decode jdk_35_method_26_code 4 = .ok (.aload_n 0, 1) := by decide +kernel
theorem own_d16_5 : decode jdk_35_method_26_code 5 = .ok (.lload_n 1, 1) := by decide +kernel
theorem own_d16_6 : decode jdk_35_method_26_code 6 = .ok (.putfield 273, 3) := by decide +kernel
theorem own_d16_9 : decode jdk_35_method_26_code 9 = .ok (.return_, 1) := by decide +kernel
theorem own_ef_own_linit (m : MethodId) (x0 : Addr) (x1 : Int64) : entryFrame m #[(.ref x0), (.long x1)] 3 = mkF m 0 #[.val (.ref x0), .val (.long x1), .second] [] := by first | (simp [entryFrame, mkF, argsToLocals, Value.category]; done) | rfl
def own_Q_own_linit (Z : State) (a : Addr) (p1 : Int64) (h0 : Heap) (n0 : Nat) (v : Option Value) (h : Heap) (L : List Loc) : Prop := (v = none) ∧ (Fr n0 L) ∧ (Keep h0 h [a]) ∧ (Fld Z h a "java/lang/Long" "value" "J" (.long p1))
theorem own_pn15415774 : plainName "java/lang/Long" = true := by first | (simp [plainName, overriddenIn]; done) | decide +kernel

theorem own_linit (l : Launch) (Z : State) (a0 : Array Value) (hw : oT a0 Z) (ws : List Jvm.Cond) (a : Addr) (p1 : Int64) (h0 : Heap) (n0 : Nat) (Z0 : n0 ≤ h0.size) (E_a : Exa Z h0 a "java/lang/Long") (F_a_value : Fld Z h0 a "java/lang/Long" "value" "J" (.long (0 : Int64))) (g_a : n0 ≤ a) :
    oMet l oM7 jdk_35_method_26_code 3 none ws ⟨2, 0, 0, 24⟩ #[(.ref a), (.long p1)] Z h0 (own_Q_own_linit Z a p1 h0 n0) := by
  refine oB n0 "java/lang/Long" rfl (plainFor_of_name own_pn15415774) (fun m => own_ef_own_linit m a p1) ?_
  intro p e s m below meth c s₁ hZ hx hby hlk hret hml hown hnm X0 e0 N0
  show own_Gl _ _ _ _ _ _ _ (s₁.setTop (mkF m 0 #[.val (.ref a), .val (.long p1), .second] []))
  refine own_st (fun _ k => XS.aloadN X0.here hx rfl (hb hby own_d16_0) rfl rfl k) ?_
  obtain ⟨_, _, ⟨T1, L1, k1, n1⟩, -, X1, ⟨Lc1, hQ1, l1, y1, z1⟩, st1⟩ := X0.specialBack hx (y := oM6) rfl hown (mvT hZ (oW hw 106 rfl)) (mvT hZ (oW hw 107 rfl)) (mvT hZ (oW hw 111 rfl)) (by decide) (backOf (W := 0) (own_number l Z a0 hw [] a h0 n0 Z0 ) hZ (oW hw 111 rfl) (oW hw 110 rfl) (by decide) (by decide)) (g := (mkF m 1 #[.val (.ref a), .val (.long p1), .second] [(.ref a)])) rfl (by rw [hml]; rfl) (Steps.refl _) (a := a) (argsL := []) (rest := []) (lenOf own_pd691897 rfl) rfl (by show 2 * 0 + _ ≤ _; exact Nat.le_of_eq rfl) (hb hby own_d16_1) (fun _ _ => ⟨rfl, e0, (by decide : 0 + 0 ≤ 0), (by decide : 0 + 0 ≤ 0)⟩)
  dsimp only [Pt.U, Pt.locs, Pt.cells, Pt.slots] at X1 l1 y1 z1 st1 hQ1
  subst l1 y1 z1
  obtain ⟨hh1, eh01⟩ : ∃ z, T1.heap = z := ⟨_, rfl⟩
  rw [eh01] at hQ1
  obtain ⟨rfl, Nq1, eh1⟩ := hQ1
  have N1 := Fr.app N0 Nq1
  refine own_tr st1 ?_
  have e1 : T1.heap = h0 := eh01.trans eh1
  refine own_st (fun _ k => XS.aloadN X1.here hx rfl (hb hby own_d16_4) rfl rfl k) ?_
  refine own_st (fun _ k => XS.lloadN X1.here hx rfl (hb hby own_d16_5) rfl k) ?_
  show own_Gl _ _ _ _ _ _ _ (T1.setTop (mkF m 6 #[.val (.ref a), .val (.long p1), .second] [(.long p1), (.ref a)]))
  obtain ⟨T2, h2, X2, e2, W2, st2⟩ := putF X1 hx hZ hown (host := "") (Or.inl (oW hw 113 rfl)) Via.refl e1 F_a_value E_a (Or.inr ⟨(oW hw 114 rfl), rfl, hnm⟩) (oW hw 101 rfl) (ty := .long) (by decide) rfl rfl (g := (mkF m 6 #[.val (.ref a), .val (.long p1), .second] [(.long p1), (.ref a)])) rfl rfl (hb hby own_d16_6)
  have N2 := Fr.snoc X2 N1 g_a
  refine own_st st2 ?_
  have Zs3 : n0 ≤ h2.size := Nat.le_trans Z0 (Keep.of_wr W2).1
  have Fw2 := F_a_value.same W2
  show own_Gl _ _ _ _ _ _ _ (T2.setTop (mkF m 9 #[.val (.ref a), .val (.long p1), .second] []))
  have K4 : Keep h0 h2 [a] := ((Keep.refl h0 [a]).wr W2 (Or.inl (List.mem_of_getElem? (i := 0) rfl)))
  exact own_retV X2 hx hlk hret (hb hby own_d16_9) e2 ⟨rfl, N2, K4, Fw2⟩ (by decide) (by decide)
theorem own_d15_0 : decode jdk_35_method_24_code 0 = .ok (.sipush 128, 3) := by decide +kernel
theorem own_d15_3 : decode jdk_35_method_24_code 3 = .ok (.istore_n 2, 1) := by decide +kernel
theorem own_d15_4 : decode jdk_35_method_24_code 4 = .ok (.lload_n 0, 1) := by decide +kernel
theorem own_d15_5 : decode jdk_35_method_24_code 5 = .ok (.ldc2_w 230, 3) := by decide +kernel
theorem own_d15_8 : decode jdk_35_method_24_code 8 = .ok (.lcmp, 1) := by decide +kernel
theorem own_d15_9 : decode jdk_35_method_24_code 9 = .ok (.ifCond .lt 22, 3) := by decide +kernel
theorem own_d15_31 : decode jdk_35_method_24_code 31 = .ok (.new 1, 3) := by decide +kernel
theorem own_d15_34 : decode jdk_35_method_24_code 34 = .ok (.dup, 1) := by decide +kernel
theorem own_d15_35 : decode jdk_35_method_24_code 35 = .ok (.lload_n 0, 1) := by decide +kernel
theorem own_d15_36 : decode jdk_35_method_24_code 36 = .ok (.invokespecial 240, 3) := by decide +kernel
theorem own_pd91199011 : parseMethodDescriptor "(J)V" = some ⟨[.long], none⟩ := by decide +kernel
theorem own_d15_39 : decode jdk_35_method_24_code 39 = .ok (.areturn, 1) := by decide +kernel
theorem own_d15_12 : decode jdk_35_method_24_code 12 = .ok (.lload_n 0, 1) := by decide +kernel
theorem own_d15_13 : decode jdk_35_method_24_code 13 = .ok (.ldc2_w 232, 3) := by decide +kernel
theorem own_d15_16 : decode jdk_35_method_24_code 16 = .ok (.lcmp, 1) := by decide +kernel
theorem own_d15_17 : decode jdk_35_method_24_code 17 = .ok (.ifCond .gt 14, 3) := by decide +kernel
theorem own_d15_20 : decode jdk_35_method_24_code 20 = .ok (.getstatic 234, 3) := by decide +kernel
theorem own_d15_23 : decode jdk_35_method_24_code 23 = .ok (.lload_n 0, 1) := by decide +kernel
theorem own_d15_24 : decode jdk_35_method_24_code 24 = .ok (.l2i, 1) := by decide +kernel
theorem own_d15_25 : decode jdk_35_method_24_code 25 = .ok (.sipush 128, 3) := by decide +kernel
theorem own_d15_28 : decode jdk_35_method_24_code 28 = .ok (.iadd, 1) := by decide +kernel
theorem own_d15_29 : decode jdk_35_method_24_code 29 = .ok (.aaload, 1) := by decide +kernel
theorem own_d15_30 : decode jdk_35_method_24_code 30 = .ok (.areturn, 1) := by decide +kernel
theorem own_ef_own_valueOf (m : MethodId) (x0 : Int64) : entryFrame m #[(.long x0)] 3 = mkF m 0 #[.val (.long x0), .second, .unset] [] := by first | (simp [entryFrame, mkF, argsToLocals, Value.category]; done) | rfl
def own_Q_own_valueOf (Z : State) (p1 : Int64) (ca : Addr) (ccl : Cell) (h0 : Heap) (n0 : Nat) (v : Option Value) (h : Heap) (L : List Loc) : Prop := ∃ (r : Addr), (v = some (.ref r)) ∧ (Fr n0 L) ∧ (Keep h0 h []) ∧ (Exa Z h r "java/lang/Long") ∧ (Fld Z h r "java/lang/Long" "value" "J" (.long p1))

theorem own_valueOf (l : Launch) (Z : State) (a0 : Array Value) (hw : oT a0 Z) (ws : List Jvm.Cond) (p1 : Int64) (ca : Addr) (ccl : Cell) (h0 : Heap) (n0 : Nat) (Z0 : n0 ≤ h0.size) (S_cache : Sta Z h0 "java/lang/Long$LongCache" "cache" "[Ljava/lang/Long;" (.ref ca)) (hca : Arr Z h0 ca ccl (.object "java/lang/Long")) (hcs : ccl.slots.size = (256 : Int32).toNatClampNeg) (hcache : ∀ j : Int32, ¬ j < 0 → j < (256 : Int32) → ∃ r : Addr, ccl.slots[j.toNatClampNeg]? = some (.ref r) ∧ Exa Z h0 r "java/lang/Long" ∧ Fld Z h0 r "java/lang/Long" "value" "J" (.long (j - (128 : Int32)).toInt64)) :
    oMet l oM8 jdk_35_method_24_code 3 (some (.object "java/lang/Long")) ws ⟨3, 1, 1, 39⟩ #[(.long p1)] Z h0 (own_Q_own_valueOf Z p1 ca ccl h0 n0) := by
  refine oB n0 "java/lang/Long" rfl (plainFor_of_name own_pn15415774) (fun m => own_ef_own_valueOf m p1) ?_
  intro p e s m below meth c s₁ hZ hx hby hlk hret hml hown hnm X0 e0 N0
  show own_Gl _ _ _ _ _ _ _ (s₁.setTop (mkF m 0 #[.val (.long p1), .second, .unset] []))
  refine own_st (fun _ k => XS.sipush X0.here hx rfl (hb hby own_d15_0) k) ?_
  refine own_st (fun _ k => XS.istoreN X0.here hx rfl (hb hby own_d15_3) rfl (l' := #[.val (.long p1), .second, .val (.int 128)]) rfl k) ?_
  refine own_st (fun _ k => XS.lloadN X0.here hx rfl (hb hby own_d15_4) rfl k) ?_
  refine own_st (X0.ldc2Long hx hown (mvT hZ (oW hw 98 rfl)) (g := (mkF m 5 #[.val (.long p1), .second, .val (.int 128)] [(.long p1)])) rfl (hb hby own_d15_5)) ?_
  show own_Gl _ _ _ _ _ _ _ (s₁.setTop (mkF m 8 #[.val (.long p1), .second, .val (.int 128)] [(.long (-128 : Int64)), (.long p1)]))
  refine own_st (fun _ k => XS.lcmp X0.here hx rfl (hb hby own_d15_8) rfl k) ?_
  by_cases hc9 : p1 < (-128 : Int64)
  · refine own_st (fun _ k => XS.ifYes X0.here hx rfl (pc0 := 9) (pc' := 31) rfl (hb hby own_d15_9) rfl ((if0 _ _).trans (tlt ((lw_lt _ _).mpr hc9)).1) (by decide) (by decide) k) ?_
    obtain ⟨T1, h1, X1, e1, E1, A1, D1, -, st1⟩ := newO X0 hx hZ hown (oW hw 100 rfl) (oW hw 101 rfl) (oW hw 96 rfl) e0 (g := (mkF m 31 #[.val (.long p1), .second, .val (.int 128)] [])) rfl (hb hby own_d15_31) (by decide) (by decide)
    obtain ⟨b1, gb1⟩ : ∃ z, z = h0.size := ⟨_, rfl⟩
    rw [← gb1] at A1 D1 st1
    refine own_st st1 ?_
    have Zs2 : n0 ≤ h1.size := Nat.le_trans Z0 E1.1
    have g_b1 : n0 ≤ b1 := Nat.le_trans Z0 (Nat.le_of_eq gb1.symm)
    have gh_b1 : h0.size ≤ b1 := Nat.le_trans (Keep.refl h0 []).1 (Nat.le_of_eq gb1.symm)
    have F_value_b1 : Fld Z h1 b1 "java/lang/Long" "value" "J" (.long (0 : Int64)) := D1 (Or.inr (oW hw 114 rfl)) (ty := .long) (by decide)
    refine own_st (fun _ k => XS.dup X1.here hx rfl (hb hby own_d15_34) rfl rfl k) ?_
    show own_Gl _ _ _ _ _ _ _ (T1.setTop (mkF m 35 #[.val (.long p1), .second, .val (.int 128)] [(.ref b1), (.ref b1)]))
    refine own_st (fun _ k => XS.lloadN X1.here hx rfl (hb hby own_d15_35) rfl k) ?_
    obtain ⟨_, _, ⟨T4, L4, k4, n4⟩, -, X4, ⟨Lc4, hQ4, l4, y4, z4⟩, st4⟩ := X1.specialBack hx (y := oM7) rfl hown (mvT hZ (oW hw 102 rfl)) (mvT hZ (oW hw 103 rfl)) (mvT hZ (oW hw 105 rfl)) (by decide) (backOf (W := 1) (own_linit l Z a0 hw [] b1 p1 h1 n0 Zs2 A1 F_value_b1 g_b1) hZ (oW hw 105 rfl) (oW hw 96 rfl) (by decide) (by decide)) (g := (mkF m 36 #[.val (.long p1), .second, .val (.int 128)] [(.long p1), (.ref b1), (.ref b1)])) rfl (by rw [hml]; rfl) (Steps.refl _) (a := b1) (argsL := [(.long p1)]) (rest := [(.ref b1)]) (lenOf own_pd91199011 rfl) rfl (by show 2 * 0 + _ ≤ _; exact Nat.le_of_eq rfl) (hb hby own_d15_36) (fun _ _ => ⟨rfl, e1, (by decide : 1 + 0 ≤ 1), (by decide : 1 + 0 ≤ 1)⟩)
    dsimp only [Pt.U, Pt.locs, Pt.cells, Pt.slots] at X4 l4 y4 z4 st4 hQ4
    subst l4 y4 z4
    obtain ⟨hh4, eh04⟩ : ∃ z, T4.heap = z := ⟨_, rfl⟩
    rw [eh04] at hQ4
    obtain ⟨rfl, Nq4, Kq4, P4_0⟩ := hQ4
    have N4 := Fr.app N0 Nq4
    refine own_tr st4 ?_
    have Zs5 : n0 ≤ hh4.size := Nat.le_trans Zs2 Kq4.1
    show own_Gl _ _ _ _ _ _ _ (T4.setTop (mkF m 39 #[.val (.long p1), .second, .val (.int 128)] [(.ref b1)]))
    have K6 : Keep h0 hh4 [] := (((Keep.refl h0 []).ext E1).trans Kq4 (allS (Or.inr gh_b1) all0))
    have f7 := (A1.keep Kq4)
    exact own_retA X4 hx hlk hret rfl rfl rfl (hb hby own_d15_39) eh04 ⟨b1, rfl, N4, K6, f7, P4_0⟩ (by decide) (by decide)
  · refine own_st (fun _ k => XS.ifNo X0.here hx rfl (hb hby own_d15_9) rfl ((if0 _ _).trans (flt (mt (lw_lt _ _).mp hc9)).1) k) ?_
    refine own_st (fun _ k => XS.lloadN X0.here hx rfl (hb hby own_d15_12) rfl k) ?_
    refine own_st (X0.ldc2Long hx hown (mvT hZ (oW hw 99 rfl)) (g := (mkF m 13 #[.val (.long p1), .second, .val (.int 128)] [(.long p1)])) rfl (hb hby own_d15_13)) ?_
    show own_Gl _ _ _ _ _ _ _ (s₁.setTop (mkF m 16 #[.val (.long p1), .second, .val (.int 128)] [(.long (127 : Int64)), (.long p1)]))
    refine own_st (fun _ k => XS.lcmp X0.here hx rfl (hb hby own_d15_16) rfl k) ?_
    by_cases hc17 : (127 : Int64) < p1
    · refine own_st (fun _ k => XS.ifYes X0.here hx rfl (pc0 := 17) (pc' := 31) rfl (hb hby own_d15_17) rfl ((if0 _ _).trans (tlt ((lw_gt _ _).mpr hc17)).2.2.1) (by decide) (by decide) k) ?_
      obtain ⟨T8, h8, X8, e8, E8, A8, D8, -, st8⟩ := newO X0 hx hZ hown (oW hw 100 rfl) (oW hw 101 rfl) (oW hw 96 rfl) e0 (g := (mkF m 31 #[.val (.long p1), .second, .val (.int 128)] [])) rfl (hb hby own_d15_31) (by decide) (by decide)
      obtain ⟨b8, gb8⟩ : ∃ z, z = h0.size := ⟨_, rfl⟩
      rw [← gb8] at A8 D8 st8
      refine own_st st8 ?_
      have Zs9 : n0 ≤ h8.size := Nat.le_trans Z0 E8.1
      have g_b8 : n0 ≤ b8 := Nat.le_trans Z0 (Nat.le_of_eq gb8.symm)
      have gh_b8 : h0.size ≤ b8 := Nat.le_trans (Keep.refl h0 []).1 (Nat.le_of_eq gb8.symm)
      have F_value_b8 : Fld Z h8 b8 "java/lang/Long" "value" "J" (.long (0 : Int64)) := D8 (Or.inr (oW hw 114 rfl)) (ty := .long) (by decide)
      refine own_st (fun _ k => XS.dup X8.here hx rfl (hb hby own_d15_34) rfl rfl k) ?_
      show own_Gl _ _ _ _ _ _ _ (T8.setTop (mkF m 35 #[.val (.long p1), .second, .val (.int 128)] [(.ref b8), (.ref b8)]))
      refine own_st (fun _ k => XS.lloadN X8.here hx rfl (hb hby own_d15_35) rfl k) ?_
      obtain ⟨_, _, ⟨T11, L11, k11, n11⟩, -, X11, ⟨Lc11, hQ11, l11, y11, z11⟩, st11⟩ := X8.specialBack hx (y := oM7) rfl hown (mvT hZ (oW hw 102 rfl)) (mvT hZ (oW hw 103 rfl)) (mvT hZ (oW hw 105 rfl)) (by decide) (backOf (W := 1) (own_linit l Z a0 hw [] b8 p1 h8 n0 Zs9 A8 F_value_b8 g_b8) hZ (oW hw 105 rfl) (oW hw 96 rfl) (by decide) (by decide)) (g := (mkF m 36 #[.val (.long p1), .second, .val (.int 128)] [(.long p1), (.ref b8), (.ref b8)])) rfl (by rw [hml]; rfl) (Steps.refl _) (a := b8) (argsL := [(.long p1)]) (rest := [(.ref b8)]) (lenOf own_pd91199011 rfl) rfl (by show 2 * 0 + _ ≤ _; exact Nat.le_of_eq rfl) (hb hby own_d15_36) (fun _ _ => ⟨rfl, e8, (by decide : 1 + 0 ≤ 1), (by decide : 1 + 0 ≤ 1)⟩)
      dsimp only [Pt.U, Pt.locs, Pt.cells, Pt.slots] at X11 l11 y11 z11 st11 hQ11
      subst l11 y11 z11
      obtain ⟨hh11, eh011⟩ : ∃ z, T11.heap = z := ⟨_, rfl⟩
      rw [eh011] at hQ11
      obtain ⟨rfl, Nq11, Kq11, P11_0⟩ := hQ11
      have N11 := Fr.app N0 Nq11
      refine own_tr st11 ?_
      have Zs12 : n0 ≤ hh11.size := Nat.le_trans Zs9 Kq11.1
      show own_Gl _ _ _ _ _ _ _ (T11.setTop (mkF m 39 #[.val (.long p1), .second, .val (.int 128)] [(.ref b8)]))
      have K13 : Keep h0 hh11 [] := (((Keep.refl h0 []).ext E8).trans Kq11 (allS (Or.inr gh_b8) all0))
      have f14 := (A8.keep Kq11)
      exact own_retA X11 hx hlk hret rfl rfl rfl (hb hby own_d15_39) eh011 ⟨b8, rfl, N11, K13, f14, P11_0⟩ (by decide) (by decide)
    · refine own_st (fun _ k => XS.ifNo X0.here hx rfl (hb hby own_d15_17) rfl ((if0 _ _).trans (flt (mt (lw_gt _ _).mp hc17)).2.2.1) k) ?_
      obtain ⟨T15, X15, e15, st15⟩ := getS2 X0 hx hZ hown (host := "") (Or.inl (oW hw 180 rfl)) Via.refl e0 S_cache (g := (mkF m 20 #[.val (.long p1), .second, .val (.int 128)] [])) rfl (hb hby own_d15_20)
      refine own_st st15 ?_
      refine own_st (fun _ k => XS.lloadN X15.here hx rfl (hb hby own_d15_23) rfl k) ?_
      show own_Gl _ _ _ _ _ _ _ (T15.setTop (mkF m 24 #[.val (.long p1), .second, .val (.int 128)] [(.long p1), (.ref ca)]))
      refine own_st (fun _ k => XS.l2i X15.here hx rfl (hb hby own_d15_24) rfl k) ?_
      refine own_st (fun _ k => XS.sipush X15.here hx rfl (hb hby own_d15_25) k) ?_
      refine own_st (fun _ k => XS.iadd X15.here hx rfl (hb hby own_d15_28) rfl k) ?_
      obtain ⟨⟨hp1, hp2⟩, hp3⟩ := own_lv p1 hc9 hc17
      obtain ⟨r9, hr9, er9, fr9⟩ := hcache _ hp1 hp2
      rw [hp3] at fr9
      have hin9 : ¬ ((p1.toInt32 + (128 : Int32)) < 0 ∨ ccl.slots.size ≤ (p1.toInt32 + (128 : Int32)).toNatClampNeg) := inb_of (z := (256 : Int32)) hcs ⟨hp1, hp2⟩
      refine own_st (X15.aaload hx (j := (p1.toInt32 + (128 : Int32))) (v := .ref r9) (by rw [e15]; exact hca.1) (State.isArrayOf_alike hZ.alike hca.2.1) rfl hca.2.2 hin9 hr9 (g := (mkF m 29 #[.val (.long p1), .second, .val (.int 128)] [(.int ((p1.toInt32) + (128 : Int32))), (.ref ca)])) rfl rfl (hb hby own_d15_29)) ?_
      show own_Gl _ _ _ _ _ _ _ (T15.setTop (mkF m 30 #[.val (.long p1), .second, .val (.int 128)] [(.ref r9)]))
      exact own_retA X15 hx hlk hret rfl rfl rfl (hb hby own_d15_30) e15 ⟨r9, rfl, N0, (Keep.refl h0 []), er9, fr9⟩ (by decide) (by decide)
theorem own_d10_0 : decode jdk_22_method_1_code 0 = .ok (.aload_n 0, 1) := by decide +kernel
theorem own_d10_1 : decode jdk_22_method_1_code 1 = .ok (.invokespecial 1, 3) := by decide +kernel
theorem own_d10_4 : decode jdk_22_method_1_code 4 = .ok (.return_, 1) := by decide +kernel
theorem own_ef_own_ac (m : MethodId) (x0 : Addr) : entryFrame m #[(.ref x0)] 1 = mkF m 0 #[.val (.ref x0)] [] := by first | (simp [entryFrame, mkF, argsToLocals, Value.category]; done) | rfl
def own_Q_own_ac (Z : State) (a : Addr) (h0 : Heap) (n0 : Nat) (v : Option Value) (h : Heap) (L : List Loc) : Prop := (v = none) ∧ (Fr n0 L) ∧ (h = h0)
theorem own_pn347225012 : plainName "java/util/AbstractCollection" = true := by first | (simp [plainName, overriddenIn]; done) | decide +kernel

theorem own_ac (l : Launch) (Z : State) (a0 : Array Value) (hw : oT a0 Z) (ws : List Jvm.Cond) (a : Addr) (h0 : Heap) (n0 : Nat) (Z0 : n0 ≤ h0.size) :
    oMet l oM9 jdk_22_method_1_code 1 none ws ⟨1, 0, 0, 12⟩ #[(.ref a)] Z h0 (own_Q_own_ac Z a h0 n0) := by
  refine oB n0 "java/util/AbstractCollection" rfl (plainFor_of_name own_pn347225012) (fun m => own_ef_own_ac m a) ?_
  intro p e s m below meth c s₁ hZ hx hby hlk hret hml hown hnm X0 e0 N0
  show own_Gl _ _ _ _ _ _ _ (s₁.setTop (mkF m 0 #[.val (.ref a)] []))
  refine own_st (fun _ k => XS.aloadN X0.here hx rfl (hb hby own_d10_0) rfl rfl k) ?_
  obtain ⟨T1, X1, e1, st1⟩ := initO X0 hx hZ hown (oW hw 60 rfl) (oW hw 9 rfl) (oW hw 10 rfl) e0 (g := (mkF m 1 #[.val (.ref a)] [(.ref a)])) rfl (by rw [hml]; rfl) rfl (hb hby own_d10_1) (by decide) (W := 0) (by show 2 * 0 + _ ≤ _; exact Nat.le_of_eq rfl) (by decide)
  refine own_st st1 ?_
  show own_Gl _ _ _ _ _ _ _ (T1.setTop (mkF m 4 #[.val (.ref a)] []))
  exact own_retV X1 hx hlk hret (hb hby own_d10_4) e1 ⟨rfl, N0, rfl⟩ (by decide) (by decide)
theorem own_d9_0 : decode jdk_39_method_1_code 0 = .ok (.aload_n 0, 1) := by decide +kernel
theorem own_d9_1 : decode jdk_39_method_1_code 1 = .ok (.invokespecial 1, 3) := by decide +kernel
theorem own_d9_4 : decode jdk_39_method_1_code 4 = .ok (.aload_n 0, 1) := by decide +kernel
theorem own_d9_5 : decode jdk_39_method_1_code 5 = .ok (.iconst 0, 1) := by decide +kernel
theorem own_d9_6 : decode jdk_39_method_1_code 6 = .ok (.putfield 7, 3) := by decide +kernel
theorem own_d9_9 : decode jdk_39_method_1_code 9 = .ok (.return_, 1) := by decide +kernel
theorem own_ef_own_abl (m : MethodId) (x0 : Addr) : entryFrame m #[(.ref x0)] 1 = mkF m 0 #[.val (.ref x0)] [] := by first | (simp [entryFrame, mkF, argsToLocals, Value.category]; done) | rfl
def own_Q_own_abl (Z : State) (a : Addr) (h0 : Heap) (n0 : Nat) (v : Option Value) (h : Heap) (L : List Loc) : Prop := (v = none) ∧ (Fr n0 L) ∧ (Keep h0 h [a]) ∧ (Fld Z h a "java/util/AbstractList" "modCount" "I" (.int 0)) ∧ (Fld Z h a "java/util/ArrayList" "elementData" "[Ljava/lang/Object;" .null) ∧ (Fld Z h a "java/util/ArrayList" "size" "I" (.int 0))
theorem own_pn835979393 : plainName "java/util/AbstractList" = true := by first | (simp [plainName, overriddenIn]; done) | decide +kernel

theorem own_abl (l : Launch) (Z : State) (a0 : Array Value) (hw : oT a0 Z) (ws : List Jvm.Cond) (a : Addr) (h0 : Heap) (n0 : Nat) (Z0 : n0 ≤ h0.size) (E_a : Exa Z h0 a "java/util/ArrayList") (F_a_modCount : Fld Z h0 a "java/util/AbstractList" "modCount" "I" (.int 0)) (F_a_elementData : Fld Z h0 a "java/util/ArrayList" "elementData" "[Ljava/lang/Object;" .null) (F_a_size : Fld Z h0 a "java/util/ArrayList" "size" "I" (.int 0)) (g_a : n0 ≤ a) :
    oMet l oM10 jdk_39_method_1_code 1 none ws ⟨2, 0, 0, 24⟩ #[(.ref a)] Z h0 (own_Q_own_abl Z a h0 n0) := by
  refine oB n0 "java/util/AbstractList" rfl (plainFor_of_name own_pn835979393) (fun m => own_ef_own_abl m a) ?_
  intro p e s m below meth c s₁ hZ hx hby hlk hret hml hown hnm X0 e0 N0
  show own_Gl _ _ _ _ _ _ _ (s₁.setTop (mkF m 0 #[.val (.ref a)] []))
  refine own_st (fun _ k => XS.aloadN X0.here hx rfl (hb hby own_d9_0) rfl rfl k) ?_
  obtain ⟨_, _, ⟨T1, L1, k1, n1⟩, -, X1, ⟨Lc1, hQ1, l1, y1, z1⟩, st1⟩ := X0.specialBack hx (y := oM9) rfl hown (mvT hZ (oW hw 54 rfl)) (mvT hZ (oW hw 55 rfl)) (mvT hZ (oW hw 59 rfl)) (by decide) (backOf (W := 0) (own_ac l Z a0 hw [] a h0 n0 Z0 ) hZ (oW hw 59 rfl) (oW hw 58 rfl) (by decide) (by decide)) (g := (mkF m 1 #[.val (.ref a)] [(.ref a)])) rfl (by rw [hml]; rfl) (Steps.refl _) (a := a) (argsL := []) (rest := []) (lenOf own_pd691897 rfl) rfl (by show 2 * 0 + _ ≤ _; exact Nat.le_of_eq rfl) (hb hby own_d9_1) (fun _ _ => ⟨rfl, e0, (by decide : 0 + 0 ≤ 0), (by decide : 0 + 0 ≤ 0)⟩)
  dsimp only [Pt.U, Pt.locs, Pt.cells, Pt.slots] at X1 l1 y1 z1 st1 hQ1
  subst l1 y1 z1
  obtain ⟨hh1, eh01⟩ : ∃ z, T1.heap = z := ⟨_, rfl⟩
  rw [eh01] at hQ1
  obtain ⟨rfl, Nq1, eh1⟩ := hQ1
  have N1 := Fr.app N0 Nq1
  refine own_tr st1 ?_
  have e1 : T1.heap = h0 := eh01.trans eh1
  refine own_st (fun _ k => XS.aloadN X1.here hx rfl (hb hby own_d9_4) rfl rfl k) ?_
  refine own_st (fun _ k => XS.iconst X1.here hx rfl (hb hby own_d9_5) k) ?_
  show own_Gl _ _ _ _ _ _ _ (T1.setTop (mkF m 6 #[.val (.ref a)] [(.int 0), (.ref a)]))
  obtain ⟨T2, h2, X2, e2, W2, st2⟩ := putF X1 hx hZ hown (host := "") (Or.inl (oW hw 61 rfl)) Via.refl e1 F_a_modCount E_a (Or.inl (oW hw 62 rfl)) (oW hw 43 rfl) (ty := .int) (by decide) rfl rfl (g := (mkF m 6 #[.val (.ref a)] [(.int 0), (.ref a)])) rfl rfl (hb hby own_d9_6)
  have N2 := Fr.snoc X2 N1 g_a
  refine own_st st2 ?_
  have Zs3 : n0 ≤ h2.size := Nat.le_trans Z0 (Keep.of_wr W2).1
  have Fw2 := F_a_modCount.same W2
  show own_Gl _ _ _ _ _ _ _ (T2.setTop (mkF m 9 #[.val (.ref a)] []))
  have K4 : Keep h0 h2 [a] := ((Keep.refl h0 [a]).wr W2 (Or.inl (List.mem_of_getElem? (i := 0) rfl)))
  have f5 := (F_a_elementData.other W2 (Or.inr (slot_ne (Or.inl (oW hw 65 rfl)) (Or.inl (oW hw 62 rfl)) (by decide) (t := (.array (.object "java/lang/Object"))) (t' := .int) (by decide) (by decide))))
  have f6 := (F_a_size.other W2 (Or.inr (slot_ne (Or.inl (oW hw 79 rfl)) (Or.inl (oW hw 62 rfl)) (by decide) (t := .int) (t' := .int) (by decide) (by decide))))
  exact own_retV X2 hx hlk hret (hb hby own_d9_9) e2 ⟨rfl, N2, K4, Fw2, f5, f6⟩ (by decide) (by decide)
theorem own_d8_0 : decode jdk_38_method_2_code 0 = .ok (.aload_n 0, 1) := by decide +kernel
theorem own_d8_1 : decode jdk_38_method_2_code 1 = .ok (.invokespecial 1, 3) := by decide +kernel
theorem own_d8_4 : decode jdk_38_method_2_code 4 = .ok (.aload_n 0, 1) := by decide +kernel
theorem own_d8_5 : decode jdk_38_method_2_code 5 = .ok (.getstatic 39, 3) := by decide +kernel
theorem own_d8_8 : decode jdk_38_method_2_code 8 = .ok (.putfield 9, 3) := by decide +kernel
theorem own_d8_11 : decode jdk_38_method_2_code 11 = .ok (.return_, 1) := by decide +kernel
theorem own_ef_own_alinit (m : MethodId) (x0 : Addr) : entryFrame m #[(.ref x0)] 1 = mkF m 0 #[.val (.ref x0)] [] := by first | (simp [entryFrame, mkF, argsToLocals, Value.category]; done) | rfl
def own_Q_own_alinit (Z : State) (a : Addr) (de : Addr) (h0 : Heap) (n0 : Nat) (v : Option Value) (h : Heap) (L : List Loc) : Prop := (v = none) ∧ (Fr n0 L) ∧ (Keep h0 h [a]) ∧ (Fld Z h a "java/util/AbstractList" "modCount" "I" (.int 0)) ∧ (Fld Z h a "java/util/ArrayList" "elementData" "[Ljava/lang/Object;" (.ref de)) ∧ (Fld Z h a "java/util/ArrayList" "size" "I" (.int 0))
theorem own_pn571398808 : plainName "java/util/ArrayList" = true := by first | (simp [plainName, overriddenIn]; done) | decide +kernel

theorem own_alinit (l : Launch) (Z : State) (a0 : Array Value) (hw : oT a0 Z) (ws : List Jvm.Cond) (a : Addr) (de : Addr) (h0 : Heap) (n0 : Nat) (Z0 : n0 ≤ h0.size) (E_a : Exa Z h0 a "java/util/ArrayList") (F_a_modCount : Fld Z h0 a "java/util/AbstractList" "modCount" "I" (.int 0)) (F_a_elementData : Fld Z h0 a "java/util/ArrayList" "elementData" "[Ljava/lang/Object;" .null) (F_a_size : Fld Z h0 a "java/util/ArrayList" "size" "I" (.int 0)) (g_a : n0 ≤ a) (Old0 : Old Z n0 h0) (S_DEFAULTCAPACITY_EMPTY_ELEMENTDATA : Sta Z Z.heap "java/util/ArrayList" "DEFAULTCAPACITY_EMPTY_ELEMENTDATA" "[Ljava/lang/Object;" (.ref de)) :
    oMet l oM11 jdk_38_method_2_code 1 none ws ⟨3, 0, 0, 36⟩ #[(.ref a)] Z h0 (own_Q_own_alinit Z a de h0 n0) := by
  refine oB n0 "java/util/ArrayList" rfl (plainFor_of_name own_pn571398808) (fun m => own_ef_own_alinit m a) ?_
  intro p e s m below meth c s₁ hZ hx hby hlk hret hml hown hnm X0 e0 N0
  show own_Gl _ _ _ _ _ _ _ (s₁.setTop (mkF m 0 #[.val (.ref a)] []))
  refine own_st (fun _ k => XS.aloadN X0.here hx rfl (hb hby own_d8_0) rfl rfl k) ?_
  obtain ⟨_, _, ⟨T1, L1, k1, n1⟩, -, X1, ⟨Lc1, hQ1, l1, y1, z1⟩, st1⟩ := X0.specialBack hx (y := oM10) rfl hown (mvT hZ (oW hw 48 rfl)) (mvT hZ (oW hw 49 rfl)) (mvT hZ (oW hw 53 rfl)) (by decide) (backOf (W := 0) (own_abl l Z a0 hw [] a h0 n0 Z0 E_a F_a_modCount F_a_elementData F_a_size g_a) hZ (oW hw 53 rfl) (oW hw 52 rfl) (by decide) (by decide)) (g := (mkF m 1 #[.val (.ref a)] [(.ref a)])) rfl (by rw [hml]; rfl) (Steps.refl _) (a := a) (argsL := []) (rest := []) (lenOf own_pd691897 rfl) rfl (by show 2 * 0 + _ ≤ _; exact Nat.le_of_eq rfl) (hb hby own_d8_1) (fun _ _ => ⟨rfl, e0, (by decide : 0 + 0 ≤ 0), (by decide : 0 + 0 ≤ 0)⟩)
  dsimp only [Pt.U, Pt.locs, Pt.cells, Pt.slots] at X1 l1 y1 z1 st1 hQ1
  subst l1 y1 z1
  obtain ⟨hh1, eh01⟩ : ∃ z, T1.heap = z := ⟨_, rfl⟩
  rw [eh01] at hQ1
  obtain ⟨rfl, Nq1, Kq1, P1_0, P1_1, P1_2⟩ := hQ1
  have N1 := Fr.app N0 Nq1
  refine own_tr st1 ?_
  have Zs2 : n0 ≤ hh1.size := Nat.le_trans Z0 Kq1.1
  refine own_st (fun _ k => XS.aloadN X1.here hx rfl (hb hby own_d8_4) rfl rfl k) ?_
  have f4 := (Old0.keep Kq1 (allS g_a all0))
  obtain ⟨T3, X3, e3, st3⟩ := getS2 X1 hx hZ hown (host := "") (Or.inl (oW hw 63 rfl)) Via.refl eh01 (S_DEFAULTCAPACITY_EMPTY_ELEMENTDATA.ext f4.2) (g := (mkF m 5 #[.val (.ref a)] [(.ref a)])) rfl (hb hby own_d8_5)
  refine own_st st3 ?_
  show own_Gl _ _ _ _ _ _ _ (T3.setTop (mkF m 8 #[.val (.ref a)] [(.ref de), (.ref a)]))
  have f5 := (E_a.keep Kq1)
  obtain ⟨T6, h6, X6, e6, W6, st6⟩ := putF X3 hx hZ hown (host := "") (Or.inl (oW hw 64 rfl)) Via.refl e3 P1_1 f5 (Or.inl (oW hw 65 rfl)) (oW hw 43 rfl) (ty := (.array (.object "java/lang/Object"))) (by decide) rfl rfl (g := (mkF m 8 #[.val (.ref a)] [(.ref de), (.ref a)])) rfl rfl (hb hby own_d8_8)
  have N6 := Fr.snoc X6 N1 g_a
  refine own_st st6 ?_
  have Zs7 : n0 ≤ h6.size := Nat.le_trans Zs2 (Keep.of_wr W6).1
  have Fw6 := P1_1.same W6
  show own_Gl _ _ _ _ _ _ _ (T6.setTop (mkF m 11 #[.val (.ref a)] []))
  have K8 : Keep h0 h6 [a] := (((Keep.refl h0 [a]).trans Kq1 (allS (Or.inl (List.mem_of_getElem? (i := 0) rfl)) all0)).wr W6 (Or.inl (List.mem_of_getElem? (i := 0) rfl)))
  have f9 := (P1_0.other W6 (Or.inr (slot_ne (Or.inl (oW hw 62 rfl)) (Or.inl (oW hw 65 rfl)) (by decide) (t := .int) (t' := (.array (.object "java/lang/Object"))) (by decide) (by decide))))
  have f10 := (P1_2.other W6 (Or.inr (slot_ne (Or.inl (oW hw 79 rfl)) (Or.inl (oW hw 65 rfl)) (by decide) (t := .int) (t' := (.array (.object "java/lang/Object"))) (by decide) (by decide))))
  exact own_retV X6 hx hlk hret (hb hby own_d8_11) e6 ⟨rfl, N6, K8, f9, Fw6, f10⟩ (by decide) (by decide)
theorem own_d22_0 : decode jdk_29_method_65_code 0 = .ok (.iload_n 0, 1) := by decide +kernel
theorem own_d22_1 : decode jdk_29_method_65_code 1 = .ok (.iload_n 1, 1) := by decide +kernel
theorem own_d22_2 : decode jdk_29_method_65_code 2 = .ok (.if_icmp .lt 7, 3) := by decide +kernel
theorem own_d22_5 : decode jdk_29_method_65_code 5 = .ok (.iload_n 0, 1) := by decide +kernel
theorem own_d22_6 : decode jdk_29_method_65_code 6 = .ok (.goto 4, 3) := by decide +kernel
theorem own_d22_10 : decode jdk_29_method_65_code 10 = .ok (.ireturn, 1) := by decide +kernel
theorem own_ef_own_max (m : MethodId) (x0 : Int32) (x1 : Int32) : entryFrame m #[(.int x0), (.int x1)] 2 = mkF m 0 #[.val (.int x0), .val (.int x1)] [] := by first | (simp [entryFrame, mkF, argsToLocals, Value.category]; done) | rfl
def own_Q_own_max (Z : State)  (h0 : Heap) (n0 : Nat) (v : Option Value) (h : Heap) (L : List Loc) : Prop := (v = some (.int 10)) ∧ (Fr n0 L) ∧ (h = h0)

theorem own_max (l : Launch) (Z : State) (a0 : Array Value) (hw : oT a0 Z) (ws : List Jvm.Cond)  (h0 : Heap) (n0 : Nat) (Z0 : n0 ≤ h0.size) :
    oMet l oM12 jdk_29_method_65_code 2 (some .int) ws ⟨0, 0, 0, 0⟩ #[(.int 10), (.int 1)] Z h0 (own_Q_own_max Z  h0 n0) := by
  refine oB n0 "java/lang/Math" rfl (Jvm.Free.JP.mathPlain rfl (by decide +kernel)) (fun m => own_ef_own_max m (10 : Int32) (1 : Int32)) ?_
  intro p e s m below meth c s₁ hZ hx hby hlk hret hml hown hnm X0 e0 N0
  show own_Gl _ _ _ _ _ _ _ (s₁.setTop (mkF m 0 #[.val (.int 10), .val (.int 1)] []))
  refine own_st (fun _ k => XS.iloadN X0.here hx rfl (hb hby own_d22_0) rfl k) ?_
  refine own_st (fun _ k => XS.iloadN X0.here hx rfl (hb hby own_d22_1) rfl k) ?_
  have hd1 : ¬ ((10 : Int32) < (1 : Int32)) := (by decide)
  refine own_st (fun _ k => XS.icmpNo X0.here hx rfl (hb hby own_d22_2) rfl (flt hd1).1 k) ?_
  refine own_st (fun _ k => XS.iloadN X0.here hx rfl (hb hby own_d22_5) rfl k) ?_
  show own_Gl _ _ _ _ _ _ _ (s₁.setTop (mkF m 6 #[.val (.int 10), .val (.int 1)] [(.int 10)]))
  refine own_st (fun _ k => XS.goto X0.here hx rfl (pc0 := 6) (pc' := 10) rfl (hb hby own_d22_6) (by decide) (by decide) k) ?_
  show own_Gl _ _ _ _ _ _ _ (s₁.setTop (mkF m 10 #[.val (.int 10), .val (.int 1)] [(.int 10)]))
  exact own_retI X0 hx hlk hret (hb hby own_d22_10) e0 ⟨rfl, N0, rfl⟩ (by decide) (by decide)
theorem own_d21_0 : decode jdk_38_method_6_code 0 = .ok (.aload_n 0, 1) := by decide +kernel
theorem own_d21_1 : decode jdk_38_method_6_code 1 = .ok (.getfield 9, 3) := by decide +kernel
theorem own_d21_4 : decode jdk_38_method_6_code 4 = .ok (.arraylength, 1) := by decide +kernel
theorem own_d21_5 : decode jdk_38_method_6_code 5 = .ok (.istore_n 2, 1) := by decide +kernel
theorem own_d21_6 : decode jdk_38_method_6_code 6 = .ok (.iload_n 2, 1) := by decide +kernel
theorem own_d21_7 : decode jdk_38_method_6_code 7 = .ok (.ifCond .gt 13, 3) := by decide +kernel
theorem own_d21_10 : decode jdk_38_method_6_code 10 = .ok (.aload_n 0, 1) := by decide +kernel
theorem own_d21_11 : decode jdk_38_method_6_code 11 = .ok (.getfield 9, 3) := by decide +kernel
theorem own_d21_14 : decode jdk_38_method_6_code 14 = .ok (.getstatic 39, 3) := by decide +kernel
theorem own_d21_17 : decode jdk_38_method_6_code 17 = .ok (.if_acmp .eq 28, 3) := by decide +kernel
theorem own_d21_45 : decode jdk_38_method_6_code 45 = .ok (.aload_n 0, 1) := by decide +kernel
theorem own_d21_46 : decode jdk_38_method_6_code 46 = .ok (.bipush 10, 2) := by decide +kernel
theorem own_d21_48 : decode jdk_38_method_6_code 48 = .ok (.iload_n 1, 1) := by decide +kernel
theorem own_d21_49 : decode jdk_38_method_6_code 49 = .ok (.invokestatic 79, 3) := by decide +kernel
theorem own_pd945365680 : parseMethodDescriptor "(II)I" = some ⟨[.int, .int], some .int⟩ := by decide +kernel
theorem own_d21_52 : decode jdk_38_method_6_code 52 = .ok (.anewarray 7, 3) := by decide +kernel
theorem own_d21_55 : decode jdk_38_method_6_code 55 = .ok (.dup_x1, 1) := by decide +kernel
theorem own_d21_56 : decode jdk_38_method_6_code 56 = .ok (.putfield 9, 3) := by decide +kernel
theorem own_d21_59 : decode jdk_38_method_6_code 59 = .ok (.areturn, 1) := by decide +kernel
theorem own_ef_own_grow1 (m : MethodId) (x0 : Addr) (x1 : Int32) : entryFrame m #[(.ref x0), (.int x1)] 4 = mkF m 0 #[.val (.ref x0), .val (.int x1), .unset, .unset] [] := by first | (simp [entryFrame, mkF, argsToLocals, Value.category]; done) | rfl
def own_Q_own_grow1 (Z : State) (a : Addr) (de : Addr) (kd : ClassId) (mc : Int32) (h0 : Heap) (n0 : Nat) (v : Option Value) (h : Heap) (L : List Loc) : Prop := ∃ (ed : Addr) (ke : ClassId), (v = some (.ref ed)) ∧ (Fr n0 L) ∧ (Keep h0 h [a]) ∧ (n0 ≤ ed) ∧ (h0.size ≤ ed) ∧ (Fld Z h a "java/util/AbstractList" "modCount" "I" (.int mc)) ∧ (Fld Z h a "java/util/ArrayList" "elementData" "[Ljava/lang/Object;" (.ref ed)) ∧ (Fld Z h a "java/util/ArrayList" "size" "I" (.int 0)) ∧ (Arv Z h ed ke (.object "java/lang/Object") (10 : Int32) [.null, .null, .null, .null, .null, .null, .null, .null, .null, .null] .null) ∧ (Ovr Z ke "java/lang/Object")

theorem own_grow1 (l : Launch) (Z : State) (a0 : Array Value) (hw : oT a0 Z) (ws : List Jvm.Cond) (a : Addr) (de : Addr) (kd : ClassId) (mc : Int32) (h0 : Heap) (n0 : Nat) (Z0 : n0 ≤ h0.size) (E_a : Exa Z h0 a "java/util/ArrayList") (F_a_modCount : Fld Z h0 a "java/util/AbstractList" "modCount" "I" (.int mc)) (F_a_elementData : Fld Z h0 a "java/util/ArrayList" "elementData" "[Ljava/lang/Object;" (.ref de)) (F_a_size : Fld Z h0 a "java/util/ArrayList" "size" "I" (.int 0)) (g_a : n0 ≤ a) (Old0 : Old Z n0 h0) (S_DEFAULTCAPACITY_EMPTY_ELEMENTDATA : Sta Z Z.heap "java/util/ArrayList" "DEFAULTCAPACITY_EMPTY_ELEMENTDATA" "[Ljava/lang/Object;" (.ref de)) (hdeZ : Arv Z Z.heap de kd (.object "java/lang/Object") (0 : Int32) [] .null) :
    oMet l oM13 jdk_38_method_6_code 4 (some (.array (.object "java/lang/Object"))) ws ⟨1, 1, 10, 14⟩ #[(.ref a), (.int 1)] Z h0 (own_Q_own_grow1 Z a de kd mc h0 n0) := by
  refine oB n0 "java/util/ArrayList" rfl (plainFor_of_name own_pn571398808) (fun m => own_ef_own_grow1 m a (1 : Int32)) ?_
  intro p e s m below meth c s₁ hZ hx hby hlk hret hml hown hnm X0 e0 N0
  show own_Gl _ _ _ _ _ _ _ (s₁.setTop (mkF m 0 #[.val (.ref a), .val (.int 1), .unset, .unset] []))
  have V_de := hdeZ.ext Old0.2
  refine own_st (fun _ k => XS.aloadN X0.here hx rfl (hb hby own_d21_0) rfl rfl k) ?_
  obtain ⟨T1, X1, e1, st1⟩ := getF X0 hx hZ hown (host := "") (Or.inl (oW hw 64 rfl)) Via.refl e0 F_a_elementData (g := (mkF m 1 #[.val (.ref a), .val (.int 1), .unset, .unset] [(.ref a)])) rfl rfl (hb hby own_d21_1)
  refine own_st st1 ?_
  obtain ⟨cl2, Ar2, qq2, Ss2, Nn2, Hh2, Gg2⟩ := id V_de
  refine own_st (X1.arraylength hx (by rw [e1]; exact Ar2.1) (State.isArrayOf_alike hZ.alike Ar2.2.1) (g := (mkF m 4 #[.val (.ref a), .val (.int 1), .unset, .unset] [(.ref de)])) rfl rfl (hb hby own_d21_4)) ?_
  rw [len_of Ss2 Nn2]
  refine own_st (fun _ k => XS.istoreN X1.here hx rfl (hb hby own_d21_5) rfl (l' := #[.val (.ref a), .val (.int 1), .val (.int 0), .unset]) rfl k) ?_
  show own_Gl _ _ _ _ _ _ _ (T1.setTop (mkF m 6 #[.val (.ref a), .val (.int 1), .val (.int 0), .unset] []))
  refine own_st (fun _ k => XS.iloadN X1.here hx rfl (hb hby own_d21_6) rfl k) ?_
  have hd3 : ¬ ((0 : Int32) < (0 : Int32)) := (by decide)
  refine own_st (fun _ k => XS.ifNo X1.here hx rfl (hb hby own_d21_7) rfl ((if0 _ _).trans (flt hd3).2.2.1) k) ?_
  refine own_st (fun _ k => XS.aloadN X1.here hx rfl (hb hby own_d21_10) rfl rfl k) ?_
  obtain ⟨T4, X4, e4, st4⟩ := getF X1 hx hZ hown (host := "") (Or.inl (oW hw 64 rfl)) Via.refl e1 F_a_elementData (g := (mkF m 11 #[.val (.ref a), .val (.int 1), .val (.int 0), .unset] [(.ref a)])) rfl rfl (hb hby own_d21_11)
  refine own_st st4 ?_
  show own_Gl _ _ _ _ _ _ _ (T4.setTop (mkF m 14 #[.val (.ref a), .val (.int 1), .val (.int 0), .unset] [(.ref de)]))
  obtain ⟨T5, X5, e5, st5⟩ := getS2 X4 hx hZ hown (host := "") (Or.inl (oW hw 63 rfl)) Via.refl e4 (S_DEFAULTCAPACITY_EMPTY_ELEMENTDATA.ext Old0.2) (g := (mkF m 14 #[.val (.ref a), .val (.int 1), .val (.int 0), .unset] [(.ref de)])) rfl (hb hby own_d21_14)
  refine own_st st5 ?_
  refine own_st (fun _ k => Jvm.RoadKit.acmp (g := (mkF m 17 #[.val (.ref a), .val (.int 1), .val (.int 0), .unset] [(.ref de), (.ref de)])) X5 hx rfl rfl rfl (pc0 := 17) (pc' := 45) (same := true) rfl (hb hby own_d21_17) rfl (decide_eq_true rfl) (by decide) (by decide) k) ?_
  refine own_st (fun _ k => XS.aloadN X5.here hx rfl (hb hby own_d21_45) rfl rfl k) ?_
  refine own_st (fun _ k => XS.bipush X5.here hx rfl (hb hby own_d21_46) k) ?_
  show own_Gl _ _ _ _ _ _ _ (T5.setTop (mkF m 48 #[.val (.ref a), .val (.int 1), .val (.int 0), .unset] [(.int 10), (.ref a)]))
  refine own_st (fun _ k => XS.iloadN X5.here hx rfl (hb hby own_d21_48) rfl k) ?_
  obtain ⟨_, _, ⟨T6, L6, k6, n6⟩, -, X6, ⟨Lc6, hQ6, l6, y6, z6⟩, st6⟩ := Jvm.LawKit.callS X5 hx (y := oM12) hown (mvT hZ (oW hw 140 rfl)) (mvT hZ (oW hw 141 rfl)) (mvT hZ (oW hw 142 rfl)) (mvT hZ (oW hw 143 rfl)) (by decide) (backOf (W := 1) (own_max l Z a0 hw []  h0 n0 Z0 ) hZ (oW hw 143 rfl) (oW hw 142 rfl) (by decide) (by decide)) (g := (mkF m 49 #[.val (.ref a), .val (.int 1), .val (.int 0), .unset] [(.int 1), (.int 10), (.ref a)])) rfl (by rw [hml]; rfl) (argsL := [(.int 10), (.int 1)]) (rest := [(.ref a)]) (lenOf own_pd945365680 rfl) rfl (by show 2 * 0 + _ ≤ _; exact Nat.le_of_eq rfl) (hb hby own_d21_49) (fun _ _ => ⟨rfl, e5, (by decide : 0 + 0 ≤ 1), (by decide : 0 + 0 ≤ 10)⟩)
  dsimp only [Pt.U, Pt.locs, Pt.cells, Pt.slots] at X6 l6 y6 z6 st6 hQ6
  subst l6 y6 z6
  obtain ⟨hh6, eh06⟩ : ∃ z, T6.heap = z := ⟨_, rfl⟩
  rw [eh06] at hQ6
  obtain ⟨rfl, Nq6, eh6⟩ := hQ6
  have N6 := Fr.app N0 Nq6
  refine own_st st6 ?_
  have e6 : T6.heap = h0 := eh06.trans eh6
  obtain ⟨T7, h7, k7, X7, e7, E7, A7, O7, st7⟩ := newR X6 hx hZ hown (oW hw 144 rfl) (oW hw 145 rfl) e6 (g := (mkF m 52 #[.val (.ref a), .val (.int 1), .val (.int 0), .unset] [(.int 10), (.ref a)])) rfl (hb hby own_d21_52) rfl (by decide) (cap := 10) (by decide) (by decide) (by decide) (by decide)
  obtain ⟨b7, gb7⟩ : ∃ z, z = h0.size := ⟨_, rfl⟩
  rw [← gb7] at A7 st7
  refine own_st st7 ?_
  have Zs8 : n0 ≤ h7.size := Nat.le_trans Z0 E7.1
  have g_b7 : n0 ≤ b7 := Nat.le_trans Z0 (Nat.le_of_eq gb7.symm)
  have gh_b7 : h0.size ≤ b7 := Nat.le_trans (Keep.refl h0 [a]).1 (Nat.le_of_eq gb7.symm)
  have ne_a_b7 : a ≠ b7 := Nat.ne_of_lt (Nat.lt_of_lt_of_le E_a.lt (Nat.le_of_eq gb7.symm))
  have ne_de_b7 : de ≠ b7 := Nat.ne_of_lt (Nat.lt_of_lt_of_le V_de.lt (Nat.le_of_eq gb7.symm))
  have V_b7 : Arv Z h7 b7 k7 (.object "java/lang/Object") (10 : Int32) [.null, .null, .null, .null, .null, .null, .null, .null, .null, .null] .null := (Arv.new A7 (by decide)).pad (pad_rep [] .null 10)
  refine own_st (fun _ k => XS.dupX1 X7.here hx rfl (hb hby own_d21_55) rfl rfl rfl k) ?_
  show own_Gl _ _ _ _ _ _ _ (T7.setTop (mkF m 56 #[.val (.ref a), .val (.int 1), .val (.int 0), .unset] [(.ref b7), (.ref a), (.ref b7)]))
  have f10 := (E_a.ext E7)
  have f11 := (F_a_elementData.ext E7)
  obtain ⟨T12, h12, X12, e12, W12, st12⟩ := putF X7 hx hZ hown (host := "") (Or.inl (oW hw 64 rfl)) Via.refl e7 f11 f10 (Or.inl (oW hw 65 rfl)) (oW hw 43 rfl) (ty := (.array (.object "java/lang/Object"))) (by decide) rfl rfl (g := (mkF m 56 #[.val (.ref a), .val (.int 1), .val (.int 0), .unset] [(.ref b7), (.ref a), (.ref b7)])) rfl rfl (hb hby own_d21_56)
  have N12 := Fr.snoc X12 N6 g_a
  refine own_st st12 ?_
  have Zs13 : n0 ≤ h12.size := Nat.le_trans Zs8 (Keep.of_wr W12).1
  have Fw12 := f11.same W12
  show own_Gl _ _ _ _ _ _ _ (T12.setTop (mkF m 59 #[.val (.ref a), .val (.int 1), .val (.int 0), .unset] [(.ref b7)]))
  have K14 : Keep h0 h12 [a] := (((Keep.refl h0 [a]).ext E7).wr W12 (Or.inl (List.mem_of_getElem? (i := 0) rfl)))
  have f15 := ((F_a_modCount.ext E7).other W12 (Or.inr (slot_ne (Or.inl (oW hw 62 rfl)) (Or.inl (oW hw 65 rfl)) (by decide) (t := .int) (t' := (.array (.object "java/lang/Object"))) (by decide) (by decide))))
  have f16 := ((F_a_size.ext E7).other W12 (Or.inr (slot_ne (Or.inl (oW hw 79 rfl)) (Or.inl (oW hw 65 rfl)) (by decide) (t := .int) (t' := (.array (.object "java/lang/Object"))) (by decide) (by decide))))
  have f17 := (V_b7.other W12 (Ne.symm ne_a_b7))
  exact own_retA X12 hx hlk hret rfl rfl rfl (hb hby own_d21_59) e12 ⟨b7, k7, rfl, N12, K14, g_b7, gh_b7, f15, Fw12, f16, f17, O7⟩ (by decide) (by decide)
theorem own_d20_0 : decode jdk_38_method_7_code 0 = .ok (.aload_n 0, 1) := by decide +kernel
theorem own_d20_1 : decode jdk_38_method_7_code 1 = .ok (.aload_n 0, 1) := by decide +kernel
theorem own_d20_2 : decode jdk_38_method_7_code 2 = .ok (.getfield 48, 3) := by decide +kernel
theorem own_d20_5 : decode jdk_38_method_7_code 5 = .ok (.iconst 1, 1) := by decide +kernel
theorem own_d20_6 : decode jdk_38_method_7_code 6 = .ok (.iadd, 1) := by decide +kernel
theorem own_d20_7 : decode jdk_38_method_7_code 7 = .ok (.invokevirtual 69, 3) := by decide +kernel
theorem own_pd491839464 : parseMethodDescriptor "(I)[Ljava/lang/Object;" = some ⟨[.int], some (.array (.object "java/lang/Object"))⟩ := by decide +kernel
theorem own_d20_10 : decode jdk_38_method_7_code 10 = .ok (.areturn, 1) := by decide +kernel
theorem own_ef_own_grow0 (m : MethodId) (x0 : Addr) : entryFrame m #[(.ref x0)] 1 = mkF m 0 #[.val (.ref x0)] [] := by first | (simp [entryFrame, mkF, argsToLocals, Value.category]; done) | rfl
def own_Q_own_grow0 (Z : State) (a : Addr) (de : Addr) (kd : ClassId) (mc : Int32) (h0 : Heap) (n0 : Nat) (v : Option Value) (h : Heap) (L : List Loc) : Prop := ∃ (ed : Addr) (ke : ClassId), (v = some (.ref ed)) ∧ (Fr n0 L) ∧ (Keep h0 h [a]) ∧ (n0 ≤ ed) ∧ (h0.size ≤ ed) ∧ (Fld Z h a "java/util/AbstractList" "modCount" "I" (.int mc)) ∧ (Fld Z h a "java/util/ArrayList" "elementData" "[Ljava/lang/Object;" (.ref ed)) ∧ (Fld Z h a "java/util/ArrayList" "size" "I" (.int 0)) ∧ (Arv Z h ed ke (.object "java/lang/Object") (10 : Int32) [.null, .null, .null, .null, .null, .null, .null, .null, .null, .null] .null) ∧ (Ovr Z ke "java/lang/Object")

theorem own_grow0 (l : Launch) (Z : State) (a0 : Array Value) (hw : oT a0 Z) (ws : List Jvm.Cond) (a : Addr) (de : Addr) (kd : ClassId) (mc : Int32) (h0 : Heap) (n0 : Nat) (Z0 : n0 ≤ h0.size) (E_a : Exa Z h0 a "java/util/ArrayList") (F_a_modCount : Fld Z h0 a "java/util/AbstractList" "modCount" "I" (.int mc)) (F_a_elementData : Fld Z h0 a "java/util/ArrayList" "elementData" "[Ljava/lang/Object;" (.ref de)) (F_a_size : Fld Z h0 a "java/util/ArrayList" "size" "I" (.int 0)) (g_a : n0 ≤ a) (Old0 : Old Z n0 h0) (S_DEFAULTCAPACITY_EMPTY_ELEMENTDATA : Sta Z Z.heap "java/util/ArrayList" "DEFAULTCAPACITY_EMPTY_ELEMENTDATA" "[Ljava/lang/Object;" (.ref de)) (hdeZ : Arv Z Z.heap de kd (.object "java/lang/Object") (0 : Int32) [] .null) :
    oMet l oM14 jdk_38_method_7_code 1 (some (.array (.object "java/lang/Object"))) ws ⟨2, 1, 10, 29⟩ #[(.ref a)] Z h0 (own_Q_own_grow0 Z a de kd mc h0 n0) := by
  refine oB n0 "java/util/ArrayList" rfl (plainFor_of_name own_pn571398808) (fun m => own_ef_own_grow0 m a) ?_
  intro p e s m below meth c s₁ hZ hx hby hlk hret hml hown hnm X0 e0 N0
  show own_Gl _ _ _ _ _ _ _ (s₁.setTop (mkF m 0 #[.val (.ref a)] []))
  refine own_st (fun _ k => XS.aloadN X0.here hx rfl (hb hby own_d20_0) rfl rfl k) ?_
  refine own_st (fun _ k => XS.aloadN X0.here hx rfl (hb hby own_d20_1) rfl rfl k) ?_
  obtain ⟨T1, X1, e1, st1⟩ := getF X0 hx hZ hown (host := "") (Or.inl (oW hw 78 rfl)) Via.refl e0 F_a_size (g := (mkF m 2 #[.val (.ref a)] [(.ref a), (.ref a)])) rfl rfl (hb hby own_d20_2)
  refine own_st st1 ?_
  refine own_st (fun _ k => XS.iconst X1.here hx rfl (hb hby own_d20_5) k) ?_
  show own_Gl _ _ _ _ _ _ _ (T1.setTop (mkF m 6 #[.val (.ref a)] [(.int 1), (.int 0), (.ref a)]))
  refine own_st (fun _ k => XS.iadd X1.here hx rfl (hb hby own_d20_6) rfl k) ?_
  obtain ⟨cq2, q2, qq2⟩ := E_a.cell
  obtain ⟨_, _, ⟨T2, L2, k2, n2⟩, -, X2, ⟨Lc2, hQ2, l2, y2, z2⟩, st2⟩ := X1.privateBack hx (y := oM13) hown (mvT hZ (oW hw 135 rfl)) (mvT hZ (oW hw 136 rfl)) (mvT hZ (oW hw 138 rfl)) (Cond.privateMethod_at (mvP hZ (oW hw 137 rfl) (args := #[]))) (mvT hZ (oW hw 139 rfl)) (by decide) (backOf (W := 0) (own_grow1 l Z a0 hw [] a de kd mc h0 n0 Z0 E_a F_a_modCount F_a_elementData F_a_size g_a Old0 S_DEFAULTCAPACITY_EMPTY_ELEMENTDATA hdeZ) hZ (oW hw 139 rfl) (oW hw 44 rfl) (by decide) (by decide)) (g := (mkF m 7 #[.val (.ref a)] [(.int 1), (.ref a)])) rfl (by rw [hml]; rfl) (Steps.refl _) (a := a) (by rw [e1]; exact q2) qq2 (argsL := [(.int 1)]) (rest := []) (lenOf own_pd491839464 rfl) rfl (by show 2 * 0 + _ ≤ _; exact Nat.le_of_eq rfl) (hb hby own_d20_7) (fun _ _ => ⟨rfl, e1, (by decide : 0 + 1 ≤ 1), (by decide : 0 + 10 ≤ 10)⟩)
  dsimp only [Pt.U, Pt.locs, Pt.cells, Pt.slots] at X2 l2 y2 z2 st2 hQ2
  subst l2 y2 z2
  obtain ⟨hh2, eh02⟩ : ∃ z, T2.heap = z := ⟨_, rfl⟩
  rw [eh02] at hQ2
  obtain ⟨ed_2, ke_2, rfl, Nq2, Kq2, P2_0, P2_1, P2_2, P2_3, P2_4, P2_5, P2_6⟩ := hQ2
  have N2 := Fr.app N0 Nq2
  refine own_tr st2 ?_
  have Zs3 : n0 ≤ hh2.size := Nat.le_trans Z0 Kq2.1
  have gh_ed_2 : h0.size ≤ ed_2 := Nat.le_trans (Keep.refl h0 [a]).1 P2_1
  have ne_a_ed_2 : a ≠ ed_2 := Nat.ne_of_lt (Nat.lt_of_lt_of_le E_a.lt P2_1)
  show own_Gl _ _ _ _ _ _ _ (T2.setTop (mkF m 10 #[.val (.ref a)] [(.ref ed_2)]))
  have K4 : Keep h0 hh2 [a] := ((Keep.refl h0 [a]).trans Kq2 (allS (Or.inl (List.mem_of_getElem? (i := 0) rfl)) all0))
  exact own_retA X2 hx hlk hret rfl rfl rfl (hb hby own_d20_10) eh02 ⟨ed_2, ke_2, rfl, N2, K4, P2_0, gh_ed_2, P2_2, P2_3, P2_4, P2_5, P2_6⟩ (by decide) (by decide)
theorem own_d19_0 : decode jdk_38_method_24_code 0 = .ok (.iload_n 3, 1) := by decide +kernel
theorem own_d19_1 : decode jdk_38_method_24_code 1 = .ok (.aload_n 2, 1) := by decide +kernel
theorem own_d19_2 : decode jdk_38_method_24_code 2 = .ok (.arraylength, 1) := by decide +kernel
theorem own_d19_3 : decode jdk_38_method_24_code 3 = .ok (.if_icmp .ne 8, 3) := by decide +kernel
theorem own_d19_6 : decode jdk_38_method_24_code 6 = .ok (.aload_n 0, 1) := by decide +kernel
theorem own_d19_7 : decode jdk_38_method_24_code 7 = .ok (.invokevirtual 129, 3) := by decide +kernel
theorem own_pd609436142 : parseMethodDescriptor "()[Ljava/lang/Object;" = some ⟨[], some (.array (.object "java/lang/Object"))⟩ := by decide +kernel
theorem own_d19_10 : decode jdk_38_method_24_code 10 = .ok (.astore_n 2, 1) := by decide +kernel
theorem own_d19_11 : decode jdk_38_method_24_code 11 = .ok (.aload_n 2, 1) := by decide +kernel
theorem own_d19_12 : decode jdk_38_method_24_code 12 = .ok (.iload_n 3, 1) := by decide +kernel
theorem own_d19_13 : decode jdk_38_method_24_code 13 = .ok (.aload_n 1, 1) := by decide +kernel
theorem own_d19_14 : decode jdk_38_method_24_code 14 = .ok (.aastore, 1) := by decide +kernel
theorem own_d19_15 : decode jdk_38_method_24_code 15 = .ok (.aload_n 0, 1) := by decide +kernel
theorem own_d19_16 : decode jdk_38_method_24_code 16 = .ok (.iload_n 3, 1) := by decide +kernel
theorem own_d19_17 : decode jdk_38_method_24_code 17 = .ok (.iconst 1, 1) := by decide +kernel
theorem own_d19_18 : decode jdk_38_method_24_code 18 = .ok (.iadd, 1) := by decide +kernel
theorem own_d19_19 : decode jdk_38_method_24_code 19 = .ok (.putfield 48, 3) := by decide +kernel
theorem own_d19_22 : decode jdk_38_method_24_code 22 = .ok (.return_, 1) := by decide +kernel
theorem own_ef_own_add3f (m : MethodId) (x0 : Addr) (x1 : Addr) (x2 : Addr) (x3 : Int32) : entryFrame m #[(.ref x0), (.ref x1), (.ref x2), (.int x3)] 4 = mkF m 0 #[.val (.ref x0), .val (.ref x1), .val (.ref x2), .val (.int x3)] [] := by first | (simp [entryFrame, mkF, argsToLocals, Value.category]; done) | rfl
def own_Q_own_add3f (Z : State) (a : Addr) (de : Addr) (kd : ClassId) (mc : Int32) (r : Addr) (h0 : Heap) (n0 : Nat) (v : Option Value) (h : Heap) (L : List Loc) : Prop := ∃ (ed : Addr) (ke : ClassId), (v = none) ∧ (Fr n0 L) ∧ (Keep h0 h [a]) ∧ (n0 ≤ ed) ∧ (h0.size ≤ ed) ∧ (Fld Z h a "java/util/AbstractList" "modCount" "I" (.int mc)) ∧ (Fld Z h a "java/util/ArrayList" "elementData" "[Ljava/lang/Object;" (.ref ed)) ∧ (Fld Z h a "java/util/ArrayList" "size" "I" (.int 1)) ∧ (Arv Z h ed ke (.object "java/lang/Object") (10 : Int32) (own_rl 1 (fun i => if i = 0 then r else r)) .null) ∧ (Ovr Z ke "java/lang/Object")

theorem own_add3f (l : Launch) (Z : State) (a0 : Array Value) (hw : oT a0 Z) (ws : List Jvm.Cond) (a : Addr) (de : Addr) (kd : ClassId) (mc : Int32) (r : Addr) (h0 : Heap) (n0 : Nat) (Z0 : n0 ≤ h0.size) (E_a : Exa Z h0 a "java/util/ArrayList") (F_a_modCount : Fld Z h0 a "java/util/AbstractList" "modCount" "I" (.int mc)) (F_a_elementData : Fld Z h0 a "java/util/ArrayList" "elementData" "[Ljava/lang/Object;" (.ref de)) (F_a_size : Fld Z h0 a "java/util/ArrayList" "size" "I" (.int 0)) (g_a : n0 ≤ a) (Old0 : Old Z n0 h0) (S_DEFAULTCAPACITY_EMPTY_ELEMENTDATA : Sta Z Z.heap "java/util/ArrayList" "DEFAULTCAPACITY_EMPTY_ELEMENTDATA" "[Ljava/lang/Object;" (.ref de)) (hdeZ : Arv Z Z.heap de kd (.object "java/lang/Object") (0 : Int32) [] .null) (E_r : Exa Z h0 r "java/lang/Long") :
    oMet l oM15 jdk_38_method_24_code 4 none ws ⟨3, 1, 10, 41⟩ #[(.ref a), (.ref r), (.ref de), (.int 0)] Z h0 (own_Q_own_add3f Z a de kd mc r h0 n0) := by
  refine oB n0 "java/util/ArrayList" rfl (plainFor_of_name own_pn571398808) (fun m => own_ef_own_add3f m a r de (0 : Int32)) ?_
  intro p e s m below meth c s₁ hZ hx hby hlk hret hml hown hnm X0 e0 N0
  show own_Gl _ _ _ _ _ _ _ (s₁.setTop (mkF m 0 #[.val (.ref a), .val (.ref r), .val (.ref de), .val (.int 0)] []))
  have V_de := hdeZ.ext Old0.2
  refine own_st (fun _ k => XS.iloadN X0.here hx rfl (hb hby own_d19_0) rfl k) ?_
  refine own_st (fun _ k => XS.aloadN X0.here hx rfl (hb hby own_d19_1) rfl rfl k) ?_
  obtain ⟨cl1, Ar1, qq1, Ss1, Nn1, Hh1, Gg1⟩ := id V_de
  refine own_st (X0.arraylength hx (by rw [e0]; exact Ar1.1) (State.isArrayOf_alike hZ.alike Ar1.2.1) (g := (mkF m 2 #[.val (.ref a), .val (.ref r), .val (.ref de), .val (.int 0)] [(.ref de), (.int 0)])) rfl rfl (hb hby own_d19_2)) ?_
  rw [len_of Ss1 Nn1]
  have hd2 : (0 : Int32) = (0 : Int32) := (by decide)
  refine own_st (fun _ k => XS.icmpNo X0.here hx rfl (hb hby own_d19_3) rfl (teq hd2).2 k) ?_
  show own_Gl _ _ _ _ _ _ _ (s₁.setTop (mkF m 6 #[.val (.ref a), .val (.ref r), .val (.ref de), .val (.int 0)] []))
  refine own_st (fun _ k => XS.aloadN X0.here hx rfl (hb hby own_d19_6) rfl rfl k) ?_
  obtain ⟨cq3, q3, qq3⟩ := E_a.cell
  obtain ⟨_, _, ⟨T3, L3, k3, n3⟩, -, X3, ⟨Lc3, hQ3, l3, y3, z3⟩, st3⟩ := X0.privateBack hx (y := oM14) hown (mvT hZ (oW hw 130 rfl)) (mvT hZ (oW hw 131 rfl)) (mvT hZ (oW hw 133 rfl)) (Cond.privateMethod_at (mvP hZ (oW hw 132 rfl) (args := #[]))) (mvT hZ (oW hw 134 rfl)) (by decide) (backOf (W := 0) (own_grow0 l Z a0 hw [] a de kd mc h0 n0 Z0 E_a F_a_modCount F_a_elementData F_a_size g_a Old0 S_DEFAULTCAPACITY_EMPTY_ELEMENTDATA hdeZ) hZ (oW hw 134 rfl) (oW hw 44 rfl) (by decide) (by decide)) (g := (mkF m 7 #[.val (.ref a), .val (.ref r), .val (.ref de), .val (.int 0)] [(.ref a)])) rfl (by rw [hml]; rfl) (Steps.refl _) (a := a) (by rw [e0]; exact q3) qq3 (argsL := []) (rest := []) (lenOf own_pd609436142 rfl) rfl (by show 2 * 0 + _ ≤ _; exact Nat.le_of_eq rfl) (hb hby own_d19_7) (fun _ _ => ⟨rfl, e0, (by decide : 0 + 1 ≤ 1), (by decide : 0 + 10 ≤ 10)⟩)
  dsimp only [Pt.U, Pt.locs, Pt.cells, Pt.slots] at X3 l3 y3 z3 st3 hQ3
  subst l3 y3 z3
  obtain ⟨hh3, eh03⟩ : ∃ z, T3.heap = z := ⟨_, rfl⟩
  rw [eh03] at hQ3
  obtain ⟨ed_3, ke_3, rfl, Nq3, Kq3, P3_0, P3_1, P3_2, P3_3, P3_4, P3_5, P3_6⟩ := hQ3
  have N3 := Fr.app N0 Nq3
  refine own_tr st3 ?_
  have Zs4 : n0 ≤ hh3.size := Nat.le_trans Z0 Kq3.1
  have gh_ed_3 : h0.size ≤ ed_3 := Nat.le_trans (Keep.refl h0 [a]).1 P3_1
  have ne_a_ed_3 : a ≠ ed_3 := Nat.ne_of_lt (Nat.lt_of_lt_of_le E_a.lt P3_1)
  have ne_r_ed_3 : r ≠ ed_3 := Nat.ne_of_lt (Nat.lt_of_lt_of_le E_r.lt P3_1)
  have ne_de_ed_3 : de ≠ ed_3 := Nat.ne_of_lt (Nat.lt_of_lt_of_le V_de.lt P3_1)
  refine own_st (fun _ k => XS.astoreN X3.here hx rfl (hb hby own_d19_10) rfl rfl (l' := #[.val (.ref a), .val (.ref r), .val (.ref ed_3), .val (.int 0)]) rfl k) ?_
  refine own_st (fun _ k => XS.aloadN X3.here hx rfl (hb hby own_d19_11) rfl rfl k) ?_
  show own_Gl _ _ _ _ _ _ _ (T3.setTop (mkF m 12 #[.val (.ref a), .val (.ref r), .val (.ref ed_3), .val (.int 0)] [(.ref ed_3)]))
  refine own_st (fun _ k => XS.iloadN X3.here hx rfl (hb hby own_d19_12) rfl k) ?_
  refine own_st (fun _ k => XS.aloadN X3.here hx rfl (hb hby own_d19_13) rfl rfl k) ?_
  obtain ⟨cl5, Ar5, qq5, Ss5, Nn5, Hh5, Gg5⟩ := id P3_5
  have hin5 : ¬ ((0 : Int32) < 0 ∨ cl5.slots.size ≤ ((0 : Int32)).toNatClampNeg) := inb_of Ss5 ⟨by decide, by decide⟩
  have f6 := (E_r.keep Kq3)
  obtain ⟨T5, h5, X5, e5, W5, st5⟩ := stR X3 hx hZ eh03 Ar5 (j := (0 : Int32)) hin5 rfl (Sto.ofV Ar5 qq5 P3_6 (Ins.of_exa f6 (oW hw 146 rfl))) (g := (mkF m 14 #[.val (.ref a), .val (.ref r), .val (.ref ed_3), .val (.int 0)] [(.ref r), (.int 0), (.ref ed_3)])) rfl rfl (hb hby own_d19_14)
  have N5 := Fr.snoc X5 N3 P3_0
  refine own_st st5 ?_
  have Zs7 : n0 ≤ h5.size := Nat.le_trans Zs4 (Keep.of_wr W5).1
  have Vw5 : Arv Z h5 ed_3 ke_3 (.object "java/lang/Object") (10 : Int32) [(.ref r), .null, .null, .null, .null, .null, .null, .null, .null, .null] .null := Arv.set Ar5 qq5 Ss5 Nn5 Hh5 Gg5 rfl W5 0 (rfl) (Nat.le_of_ble_eq_true rfl)
  refine own_st (fun _ k => XS.aloadN X5.here hx rfl (hb hby own_d19_15) rfl rfl k) ?_
  show own_Gl _ _ _ _ _ _ _ (T5.setTop (mkF m 16 #[.val (.ref a), .val (.ref r), .val (.ref ed_3), .val (.int 0)] [(.ref a)]))
  refine own_st (fun _ k => XS.iloadN X5.here hx rfl (hb hby own_d19_16) rfl k) ?_
  refine own_st (fun _ k => XS.iconst X5.here hx rfl (hb hby own_d19_17) k) ?_
  refine own_st (fun _ k => XS.iadd X5.here hx rfl (hb hby own_d19_18) rfl k) ?_
  have f8 := ((E_a.keep Kq3).wr W5)
  have f9 := (P3_4.other W5 (Or.inl ne_a_ed_3))
  obtain ⟨T10, h10, X10, e10, W10, st10⟩ := putF X5 hx hZ hown (host := "") (Or.inl (oW hw 78 rfl)) Via.refl e5 f9 f8 (Or.inl (oW hw 79 rfl)) (oW hw 43 rfl) (ty := .int) (by decide) rfl rfl (g := (mkF m 19 #[.val (.ref a), .val (.ref r), .val (.ref ed_3), .val (.int 0)] [(.int 1), (.ref a)])) rfl rfl (hb hby own_d19_19)
  have N10 := Fr.snoc X10 N5 g_a
  refine own_st st10 ?_
  have Zs11 : n0 ≤ h10.size := Nat.le_trans Zs7 (Keep.of_wr W10).1
  have Fw10 := f9.same W10
  show own_Gl _ _ _ _ _ _ _ (T10.setTop (mkF m 22 #[.val (.ref a), .val (.ref r), .val (.ref ed_3), .val (.int 0)] []))
  have K12 : Keep h0 h10 [a] := ((((Keep.refl h0 [a]).trans Kq3 (allS (Or.inl (List.mem_of_getElem? (i := 0) rfl)) all0)).wr W5 (Or.inr gh_ed_3)).wr W10 (Or.inl (List.mem_of_getElem? (i := 0) rfl)))
  have f13 := ((P3_2.other W5 (Or.inl ne_a_ed_3)).other W10 (Or.inr (slot_ne (Or.inl (oW hw 62 rfl)) (Or.inl (oW hw 79 rfl)) (by decide) (t := .int) (t' := .int) (by decide) (by decide))))
  have f14 := ((P3_3.other W5 (Or.inl ne_a_ed_3)).other W10 (Or.inr (slot_ne (Or.inl (oW hw 65 rfl)) (Or.inl (oW hw 79 rfl)) (by decide) (t := (.array (.object "java/lang/Object"))) (t' := .int) (by decide) (by decide))))
  have f15 := (Vw5.other W10 (Ne.symm ne_a_ed_3))
  exact own_retV X10 hx hlk hret (hb hby own_d19_22) e10 ⟨ed_3, ke_3, rfl, N10, K12, P3_0, gh_ed_3, f13, f14, Fw10, f15, P3_6⟩ (by decide) (by decide)
theorem own_d18_0 : decode jdk_38_method_25_code 0 = .ok (.aload_n 0, 1) := by decide +kernel
theorem own_d18_1 : decode jdk_38_method_25_code 1 = .ok (.dup, 1) := by decide +kernel
theorem own_d18_2 : decode jdk_38_method_25_code 2 = .ok (.getfield 63, 3) := by decide +kernel
theorem own_d18_5 : decode jdk_38_method_25_code 5 = .ok (.iconst 1, 1) := by decide +kernel
theorem own_d18_6 : decode jdk_38_method_25_code 6 = .ok (.iadd, 1) := by decide +kernel
theorem own_d18_7 : decode jdk_38_method_25_code 7 = .ok (.putfield 63, 3) := by decide +kernel
theorem own_d18_10 : decode jdk_38_method_25_code 10 = .ok (.aload_n 0, 1) := by decide +kernel
theorem own_d18_11 : decode jdk_38_method_25_code 11 = .ok (.aload_n 1, 1) := by decide +kernel
theorem own_d18_12 : decode jdk_38_method_25_code 12 = .ok (.aload_n 0, 1) := by decide +kernel
theorem own_d18_13 : decode jdk_38_method_25_code 13 = .ok (.getfield 9, 3) := by decide +kernel
theorem own_d18_16 : decode jdk_38_method_25_code 16 = .ok (.aload_n 0, 1) := by decide +kernel
theorem own_d18_17 : decode jdk_38_method_25_code 17 = .ok (.getfield 48, 3) := by decide +kernel
theorem own_d18_20 : decode jdk_38_method_25_code 20 = .ok (.invokevirtual 131, 3) := by decide +kernel
theorem own_pd408643786 : parseMethodDescriptor "(Ljava/lang/Object;[Ljava/lang/Object;I)V" = some ⟨[(.object "java/lang/Object"), (.array (.object "java/lang/Object")), .int], none⟩ := by decide +kernel
theorem own_d18_23 : decode jdk_38_method_25_code 23 = .ok (.iconst 1, 1) := by decide +kernel
theorem own_d18_24 : decode jdk_38_method_25_code 24 = .ok (.ireturn, 1) := by decide +kernel
theorem own_ef_own_add1f (m : MethodId) (x0 : Addr) (x1 : Addr) : entryFrame m #[(.ref x0), (.ref x1)] 2 = mkF m 0 #[.val (.ref x0), .val (.ref x1)] [] := by first | (simp [entryFrame, mkF, argsToLocals, Value.category]; done) | rfl
def own_Q_own_add1f (Z : State) (a : Addr) (de : Addr) (kd : ClassId) (mc : Int32) (r : Addr) (h0 : Heap) (n0 : Nat) (v : Option Value) (h : Heap) (L : List Loc) : Prop := ∃ (ed : Addr) (ke : ClassId), (v = some (.int 1)) ∧ (Fr n0 L) ∧ (Keep h0 h [a]) ∧ (n0 ≤ ed) ∧ (h0.size ≤ ed) ∧ (Fld Z h a "java/util/AbstractList" "modCount" "I" (.int (mc + (1 : Int32)))) ∧ (Fld Z h a "java/util/ArrayList" "elementData" "[Ljava/lang/Object;" (.ref ed)) ∧ (Fld Z h a "java/util/ArrayList" "size" "I" (.int 1)) ∧ (Arv Z h ed ke (.object "java/lang/Object") (10 : Int32) (own_rl 1 (fun i => if i = 0 then r else r)) .null) ∧ (Ovr Z ke "java/lang/Object")

theorem own_add1f (l : Launch) (Z : State) (a0 : Array Value) (hw : oT a0 Z) (ws : List Jvm.Cond) (a : Addr) (de : Addr) (kd : ClassId) (mc : Int32) (r : Addr) (h0 : Heap) (n0 : Nat) (Z0 : n0 ≤ h0.size) (E_a : Exa Z h0 a "java/util/ArrayList") (F_a_modCount : Fld Z h0 a "java/util/AbstractList" "modCount" "I" (.int mc)) (F_a_elementData : Fld Z h0 a "java/util/ArrayList" "elementData" "[Ljava/lang/Object;" (.ref de)) (F_a_size : Fld Z h0 a "java/util/ArrayList" "size" "I" (.int 0)) (g_a : n0 ≤ a) (Old0 : Old Z n0 h0) (S_DEFAULTCAPACITY_EMPTY_ELEMENTDATA : Sta Z Z.heap "java/util/ArrayList" "DEFAULTCAPACITY_EMPTY_ELEMENTDATA" "[Ljava/lang/Object;" (.ref de)) (hdeZ : Arv Z Z.heap de kd (.object "java/lang/Object") (0 : Int32) [] .null) (E_r : Exa Z h0 r "java/lang/Long") :
    oMet l oM16 jdk_38_method_25_code 2 (some .boolean) ws ⟨4, 1, 10, 56⟩ #[(.ref a), (.ref r)] Z h0 (own_Q_own_add1f Z a de kd mc r h0 n0) := by
  refine oB n0 "java/util/ArrayList" rfl (plainFor_of_name own_pn571398808) (fun m => own_ef_own_add1f m a r) ?_
  intro p e s m below meth c s₁ hZ hx hby hlk hret hml hown hnm X0 e0 N0
  show own_Gl _ _ _ _ _ _ _ (s₁.setTop (mkF m 0 #[.val (.ref a), .val (.ref r)] []))
  refine own_st (fun _ k => XS.aloadN X0.here hx rfl (hb hby own_d18_0) rfl rfl k) ?_
  refine own_st (fun _ k => XS.dup X0.here hx rfl (hb hby own_d18_1) rfl rfl k) ?_
  obtain ⟨T1, X1, e1, st1⟩ := getF X0 hx hZ hown (host := "") (Or.inl (oW hw 123 rfl)) (Via.of (oW hw 124 rfl)) e0 F_a_modCount (g := (mkF m 2 #[.val (.ref a), .val (.ref r)] [(.ref a), (.ref a)])) rfl rfl (hb hby own_d18_2)
  refine own_st st1 ?_
  refine own_st (fun _ k => XS.iconst X1.here hx rfl (hb hby own_d18_5) k) ?_
  show own_Gl _ _ _ _ _ _ _ (T1.setTop (mkF m 6 #[.val (.ref a), .val (.ref r)] [(.int 1), (.int mc), (.ref a)]))
  refine own_st (fun _ k => XS.iadd X1.here hx rfl (hb hby own_d18_6) rfl k) ?_
  obtain ⟨T2, h2, X2, e2, W2, st2⟩ := putF X1 hx hZ hown (host := "") (Or.inl (oW hw 123 rfl)) (Via.of (oW hw 124 rfl)) e1 F_a_modCount E_a (Or.inl (oW hw 62 rfl)) (oW hw 43 rfl) (ty := .int) (by decide) rfl rfl (g := (mkF m 7 #[.val (.ref a), .val (.ref r)] [(.int (mc + (1 : Int32))), (.ref a)])) rfl rfl (hb hby own_d18_7)
  have N2 := Fr.snoc X2 N0 g_a
  refine own_st st2 ?_
  have Zs3 : n0 ≤ h2.size := Nat.le_trans Z0 (Keep.of_wr W2).1
  have Fw2 := F_a_modCount.same W2
  refine own_st (fun _ k => XS.aloadN X2.here hx rfl (hb hby own_d18_10) rfl rfl k) ?_
  refine own_st (fun _ k => XS.aloadN X2.here hx rfl (hb hby own_d18_11) rfl rfl k) ?_
  show own_Gl _ _ _ _ _ _ _ (T2.setTop (mkF m 12 #[.val (.ref a), .val (.ref r)] [(.ref r), (.ref a)]))
  refine own_st (fun _ k => XS.aloadN X2.here hx rfl (hb hby own_d18_12) rfl rfl k) ?_
  have f4 := (F_a_elementData.other W2 (Or.inr (slot_ne (Or.inl (oW hw 65 rfl)) (Or.inl (oW hw 62 rfl)) (by decide) (t := (.array (.object "java/lang/Object"))) (t' := .int) (by decide) (by decide))))
  obtain ⟨T5, X5, e5, st5⟩ := getF X2 hx hZ hown (host := "") (Or.inl (oW hw 64 rfl)) Via.refl e2 f4 (g := (mkF m 13 #[.val (.ref a), .val (.ref r)] [(.ref a), (.ref r), (.ref a)])) rfl rfl (hb hby own_d18_13)
  refine own_st st5 ?_
  refine own_st (fun _ k => XS.aloadN X5.here hx rfl (hb hby own_d18_16) rfl rfl k) ?_
  have f6 := (F_a_size.other W2 (Or.inr (slot_ne (Or.inl (oW hw 79 rfl)) (Or.inl (oW hw 62 rfl)) (by decide) (t := .int) (t' := .int) (by decide) (by decide))))
  obtain ⟨T7, X7, e7, st7⟩ := getF X5 hx hZ hown (host := "") (Or.inl (oW hw 78 rfl)) Via.refl e5 f6 (g := (mkF m 17 #[.val (.ref a), .val (.ref r)] [(.ref a), (.ref de), (.ref r), (.ref a)])) rfl rfl (hb hby own_d18_17)
  refine own_st st7 ?_
  show own_Gl _ _ _ _ _ _ _ (T7.setTop (mkF m 20 #[.val (.ref a), .val (.ref r)] [(.int 0), (.ref de), (.ref r), (.ref a)]))
  have f9 := (E_a.wr W2)
  have f10 := (Old0.wr W2 g_a)
  have f11 := (E_r.wr W2)
  obtain ⟨cq8, q8, qq8⟩ := f9.cell
  obtain ⟨_, _, ⟨T8, L8, k8, n8⟩, -, X8, ⟨Lc8, hQ8, l8, y8, z8⟩, st8⟩ := X7.privateBack hx (y := oM15) hown (mvT hZ (oW hw 125 rfl)) (mvT hZ (oW hw 126 rfl)) (mvT hZ (oW hw 128 rfl)) (Cond.privateMethod_at (mvP hZ (oW hw 127 rfl) (args := #[]))) (mvT hZ (oW hw 129 rfl)) (by decide) (backOf (W := 0) (own_add3f l Z a0 hw [] a de kd (mc + (1 : Int32)) r h2 n0 Zs3 f9 Fw2 f4 f6 g_a f10 S_DEFAULTCAPACITY_EMPTY_ELEMENTDATA hdeZ f11) hZ (oW hw 129 rfl) (oW hw 44 rfl) (by decide) (by decide)) (g := (mkF m 20 #[.val (.ref a), .val (.ref r)] [(.int 0), (.ref de), (.ref r), (.ref a)])) rfl (by rw [hml]; rfl) (Steps.refl _) (a := a) (by rw [e7]; exact q8) qq8 (argsL := [(.ref r), (.ref de), (.int 0)]) (rest := []) (lenOf own_pd408643786 rfl) rfl (by show 2 * 0 + _ ≤ _; exact Nat.le_of_eq rfl) (hb hby own_d18_20) (fun _ _ => ⟨rfl, e7, (by decide : 0 + 1 ≤ 1), (by decide : 0 + 10 ≤ 10)⟩)
  dsimp only [Pt.U, Pt.locs, Pt.cells, Pt.slots] at X8 l8 y8 z8 st8 hQ8
  subst l8 y8 z8
  obtain ⟨hh8, eh08⟩ : ∃ z, T8.heap = z := ⟨_, rfl⟩
  rw [eh08] at hQ8
  obtain ⟨ed_8, ke_8, rfl, Nq8, Kq8, P8_0, P8_1, P8_2, P8_3, P8_4, P8_5, P8_6⟩ := hQ8
  have N8 := Fr.app N2 Nq8
  refine own_tr st8 ?_
  have K12 : Keep h0 h2 [a] := ((Keep.refl h0 [a]).wr W2 (Or.inl (List.mem_of_getElem? (i := 0) rfl)))
  have Zs13 : n0 ≤ hh8.size := Nat.le_trans Zs3 Kq8.1
  have gh_ed_8 : h0.size ≤ ed_8 := Nat.le_trans K12.1 P8_1
  have ne_a_ed_8 : a ≠ ed_8 := Nat.ne_of_lt (Nat.lt_of_lt_of_le f9.lt P8_1)
  have ne_r_ed_8 : r ≠ ed_8 := Nat.ne_of_lt (Nat.lt_of_lt_of_le f11.lt P8_1)
  refine own_st (fun _ k => XS.iconst X8.here hx rfl (hb hby own_d18_23) k) ?_
  show own_Gl _ _ _ _ _ _ _ (T8.setTop (mkF m 24 #[.val (.ref a), .val (.ref r)] [(.int 1)]))
  have K14 : Keep h0 hh8 [a] := (K12.trans Kq8 (allS (Or.inl (List.mem_of_getElem? (i := 0) rfl)) all0))
  exact own_retN X8 hx hlk (t := .boolean) hret (by simp) (hb hby own_d18_24) eh08 ⟨ed_8, ke_8, rfl, N8, K14, P8_0, gh_ed_8, P8_2, P8_3, P8_4, P8_5, P8_6⟩ (by decide) (by decide)
theorem own_ef_own_add3m (m : MethodId) (x0 : Addr) (x1 : Addr) (x2 : Addr) (x3 : Int32) : entryFrame m #[(.ref x0), (.ref x1), (.ref x2), (.int x3)] 4 = mkF m 0 #[.val (.ref x0), .val (.ref x1), .val (.ref x2), .val (.int x3)] [] := by first | (simp [entryFrame, mkF, argsToLocals, Value.category]; done) | rfl
def own_Q_own_add3m (Z : State) (a : Addr) (r : Addr) (ed : Addr) (ke : ClassId) (mc : Int32) (N : Int32) (n : Nat) (rf : Nat → Addr) (h0 : Heap) (n0 : Nat) (v : Option Value) (h : Heap) (L : List Loc) : Prop := (v = none) ∧ (Fr n0 L) ∧ (Keep h0 h [a, ed]) ∧ (Fld Z h a "java/util/AbstractList" "modCount" "I" (.int mc)) ∧ (Fld Z h a "java/util/ArrayList" "elementData" "[Ljava/lang/Object;" (.ref ed)) ∧ (Fld Z h a "java/util/ArrayList" "size" "I" (.int (N + (1 : Int32)))) ∧ (Arv Z h ed ke (.object "java/lang/Object") (10 : Int32) (own_rl (n + 1) (fun i => if i = n then r else rf i)) .null)

theorem own_add3m (l : Launch) (Z : State) (a0 : Array Value) (hw : oT a0 Z) (ws : List Jvm.Cond) (a : Addr) (r : Addr) (ed : Addr) (ke : ClassId) (mc : Int32) (N : Int32) (n : Nat) (rf : Nat → Addr) (h0 : Heap) (n0 : Nat) (Z0 : n0 ≤ h0.size) (E_a : Exa Z h0 a "java/util/ArrayList") (F_a_modCount : Fld Z h0 a "java/util/AbstractList" "modCount" "I" (.int mc)) (F_a_elementData : Fld Z h0 a "java/util/ArrayList" "elementData" "[Ljava/lang/Object;" (.ref ed)) (F_a_size : Fld Z h0 a "java/util/ArrayList" "size" "I" (.int N)) (g_a : n0 ≤ a) (g_ed : n0 ≤ ed) (ne_a_ed : a ≠ ed) (E_r : Exa Z h0 r "java/lang/Long") (V_ed : Arv Z h0 ed ke (.object "java/lang/Object") (10 : Int32) (own_rl n rf) .null) (hov : Ovr Z ke "java/lang/Object") (hNn : N = Int32.ofNat n) (hn : n ≤ 9) :
    oMet l oM15 jdk_38_method_24_code 4 none ws ⟨0, 0, 0, 0⟩ #[(.ref a), (.ref r), (.ref ed), (.int N)] Z h0 (own_Q_own_add3m Z a r ed ke mc N n rf h0 n0) := by
  refine oB n0 "java/util/ArrayList" rfl (plainFor_of_name own_pn571398808) (fun m => own_ef_own_add3m m a r ed N) ?_
  intro p e s m below meth c s₁ hZ hx hby hlk hret hml hown hnm X0 e0 N0
  show own_Gl _ _ _ _ _ _ _ (s₁.setTop (mkF m 0 #[.val (.ref a), .val (.ref r), .val (.ref ed), .val (.int N)] []))
  refine own_st (fun _ k => XS.iloadN X0.here hx rfl (hb hby own_d19_0) rfl k) ?_
  refine own_st (fun _ k => XS.aloadN X0.here hx rfl (hb hby own_d19_1) rfl rfl k) ?_
  obtain ⟨cl1, Ar1, qq1, Ss1, Nn1, Hh1, Gg1⟩ := id V_ed
  refine own_st (X0.arraylength hx (by rw [e0]; exact Ar1.1) (State.isArrayOf_alike hZ.alike Ar1.2.1) (g := (mkF m 2 #[.val (.ref a), .val (.ref r), .val (.ref ed), .val (.int N)] [(.ref ed), (.int N)])) rfl rfl (hb hby own_d19_2)) ?_
  rw [len_of Ss1 Nn1]
  have hd2 : ¬ (N = (10 : Int32)) := (own_idx hNn hn).2.2
  refine own_st (fun _ k => XS.icmpYes X0.here hx rfl (pc0 := 3) (pc' := 11) rfl (hb hby own_d19_3) rfl (feq hd2).2 (by decide) (by decide) k) ?_
  show own_Gl _ _ _ _ _ _ _ (s₁.setTop (mkF m 11 #[.val (.ref a), .val (.ref r), .val (.ref ed), .val (.int N)] []))
  refine own_st (fun _ k => XS.aloadN X0.here hx rfl (hb hby own_d19_11) rfl rfl k) ?_
  refine own_st (fun _ k => XS.iloadN X0.here hx rfl (hb hby own_d19_12) rfl k) ?_
  refine own_st (fun _ k => XS.aloadN X0.here hx rfl (hb hby own_d19_13) rfl rfl k) ?_
  obtain ⟨cl3, Ar3, qq3, Ss3, Nn3, Hh3, Gg3⟩ := id V_ed
  have hin3 : ¬ (N < 0 ∨ cl3.slots.size ≤ (N).toNatClampNeg) := inb_of Ss3 (own_idx hNn hn).1
  obtain ⟨T3, h3, X3, e3, W3, st3⟩ := stR X0 hx hZ e0 Ar3 (j := N) hin3 rfl (Sto.ofV Ar3 qq3 hov (Ins.of_exa E_r (oW hw 146 rfl))) (g := (mkF m 14 #[.val (.ref a), .val (.ref r), .val (.ref ed), .val (.int N)] [(.ref r), (.int N), (.ref ed)])) rfl rfl (hb hby own_d19_14)
  have N3 := Fr.snoc X3 N0 g_ed
  refine own_st st3 ?_
  have Zs4 : n0 ≤ h3.size := Nat.le_trans Z0 (Keep.of_wr W3).1
  have Vv3 := Arv.set Ar3 qq3 Ss3 Nn3 Hh3 Gg3 rfl W3 n ((own_idx hNn hn).2.1) (by simp only [own_rl, List.length_map, List.length_range]; omega)
  rw [own_rl_set] at Vv3
  have Vw3 : Arv Z h3 ed ke (.object "java/lang/Object") (10 : Int32) (own_rl (n + 1) (fun i => if i = n then r else rf i)) .null := Vv3
  show own_Gl _ _ _ _ _ _ _ (T3.setTop (mkF m 15 #[.val (.ref a), .val (.ref r), .val (.ref ed), .val (.int N)] []))
  refine own_st (fun _ k => XS.aloadN X3.here hx rfl (hb hby own_d19_15) rfl rfl k) ?_
  refine own_st (fun _ k => XS.iloadN X3.here hx rfl (hb hby own_d19_16) rfl k) ?_
  refine own_st (fun _ k => XS.iconst X3.here hx rfl (hb hby own_d19_17) k) ?_
  refine own_st (fun _ k => XS.iadd X3.here hx rfl (hb hby own_d19_18) rfl k) ?_
  show own_Gl _ _ _ _ _ _ _ (T3.setTop (mkF m 19 #[.val (.ref a), .val (.ref r), .val (.ref ed), .val (.int N)] [(.int (N + (1 : Int32))), (.ref a)]))
  have f5 := (E_a.wr W3)
  have f6 := (F_a_size.other W3 (Or.inl ne_a_ed))
  obtain ⟨T7, h7, X7, e7, W7, st7⟩ := putF X3 hx hZ hown (host := "") (Or.inl (oW hw 78 rfl)) Via.refl e3 f6 f5 (Or.inl (oW hw 79 rfl)) (oW hw 43 rfl) (ty := .int) (by decide) rfl rfl (g := (mkF m 19 #[.val (.ref a), .val (.ref r), .val (.ref ed), .val (.int N)] [(.int (N + (1 : Int32))), (.ref a)])) rfl rfl (hb hby own_d19_19)
  have N7 := Fr.snoc X7 N3 g_a
  refine own_st st7 ?_
  have Zs8 : n0 ≤ h7.size := Nat.le_trans Zs4 (Keep.of_wr W7).1
  have Fw7 := f6.same W7
  show own_Gl _ _ _ _ _ _ _ (T7.setTop (mkF m 22 #[.val (.ref a), .val (.ref r), .val (.ref ed), .val (.int N)] []))
  have K9 : Keep h0 h7 [a, ed] := (((Keep.refl h0 [a, ed]).wr W3 (Or.inl (List.mem_of_getElem? (i := 1) rfl))).wr W7 (Or.inl (List.mem_of_getElem? (i := 0) rfl)))
  have f10 := ((F_a_modCount.other W3 (Or.inl ne_a_ed)).other W7 (Or.inr (slot_ne (Or.inl (oW hw 62 rfl)) (Or.inl (oW hw 79 rfl)) (by decide) (t := .int) (t' := .int) (by decide) (by decide))))
  have f11 := ((F_a_elementData.other W3 (Or.inl ne_a_ed)).other W7 (Or.inr (slot_ne (Or.inl (oW hw 65 rfl)) (Or.inl (oW hw 79 rfl)) (by decide) (t := (.array (.object "java/lang/Object"))) (t' := .int) (by decide) (by decide))))
  have f12 := (Vw3.other W7 (Ne.symm ne_a_ed))
  exact own_retV X7 hx hlk hret (hb hby own_d19_22) e7 ⟨rfl, N7, K9, f10, f11, Fw7, f12⟩ (by decide) (by decide)
theorem own_ef_own_add1m (m : MethodId) (x0 : Addr) (x1 : Addr) : entryFrame m #[(.ref x0), (.ref x1)] 2 = mkF m 0 #[.val (.ref x0), .val (.ref x1)] [] := by first | (simp [entryFrame, mkF, argsToLocals, Value.category]; done) | rfl
def own_Q_own_add1m (Z : State) (a : Addr) (r : Addr) (ed : Addr) (ke : ClassId) (mc : Int32) (N : Int32) (n : Nat) (rf : Nat → Addr) (h0 : Heap) (n0 : Nat) (v : Option Value) (h : Heap) (L : List Loc) : Prop := (v = some (.int 1)) ∧ (Fr n0 L) ∧ (Keep h0 h [a, ed]) ∧ (Fld Z h a "java/util/AbstractList" "modCount" "I" (.int (mc + (1 : Int32)))) ∧ (Fld Z h a "java/util/ArrayList" "elementData" "[Ljava/lang/Object;" (.ref ed)) ∧ (Fld Z h a "java/util/ArrayList" "size" "I" (.int (N + (1 : Int32)))) ∧ (Arv Z h ed ke (.object "java/lang/Object") (10 : Int32) (own_rl (n + 1) (fun i => if i = n then r else rf i)) .null)

theorem own_add1m (l : Launch) (Z : State) (a0 : Array Value) (hw : oT a0 Z) (ws : List Jvm.Cond) (a : Addr) (r : Addr) (ed : Addr) (ke : ClassId) (mc : Int32) (N : Int32) (n : Nat) (rf : Nat → Addr) (h0 : Heap) (n0 : Nat) (Z0 : n0 ≤ h0.size) (E_a : Exa Z h0 a "java/util/ArrayList") (F_a_modCount : Fld Z h0 a "java/util/AbstractList" "modCount" "I" (.int mc)) (F_a_elementData : Fld Z h0 a "java/util/ArrayList" "elementData" "[Ljava/lang/Object;" (.ref ed)) (F_a_size : Fld Z h0 a "java/util/ArrayList" "size" "I" (.int N)) (g_a : n0 ≤ a) (g_ed : n0 ≤ ed) (ne_a_ed : a ≠ ed) (E_r : Exa Z h0 r "java/lang/Long") (V_ed : Arv Z h0 ed ke (.object "java/lang/Object") (10 : Int32) (own_rl n rf) .null) (hov : Ovr Z ke "java/lang/Object") (hNn : N = Int32.ofNat n) (hn : n ≤ 9) :
    oMet l oM16 jdk_38_method_25_code 2 (some .boolean) ws ⟨1, 0, 0, 15⟩ #[(.ref a), (.ref r)] Z h0 (own_Q_own_add1m Z a r ed ke mc N n rf h0 n0) := by
  refine oB n0 "java/util/ArrayList" rfl (plainFor_of_name own_pn571398808) (fun m => own_ef_own_add1m m a r) ?_
  intro p e s m below meth c s₁ hZ hx hby hlk hret hml hown hnm X0 e0 N0
  show own_Gl _ _ _ _ _ _ _ (s₁.setTop (mkF m 0 #[.val (.ref a), .val (.ref r)] []))
  refine own_st (fun _ k => XS.aloadN X0.here hx rfl (hb hby own_d18_0) rfl rfl k) ?_
  refine own_st (fun _ k => XS.dup X0.here hx rfl (hb hby own_d18_1) rfl rfl k) ?_
  obtain ⟨T1, X1, e1, st1⟩ := getF X0 hx hZ hown (host := "") (Or.inl (oW hw 123 rfl)) (Via.of (oW hw 124 rfl)) e0 F_a_modCount (g := (mkF m 2 #[.val (.ref a), .val (.ref r)] [(.ref a), (.ref a)])) rfl rfl (hb hby own_d18_2)
  refine own_st st1 ?_
  refine own_st (fun _ k => XS.iconst X1.here hx rfl (hb hby own_d18_5) k) ?_
  show own_Gl _ _ _ _ _ _ _ (T1.setTop (mkF m 6 #[.val (.ref a), .val (.ref r)] [(.int 1), (.int mc), (.ref a)]))
  refine own_st (fun _ k => XS.iadd X1.here hx rfl (hb hby own_d18_6) rfl k) ?_
  obtain ⟨T2, h2, X2, e2, W2, st2⟩ := putF X1 hx hZ hown (host := "") (Or.inl (oW hw 123 rfl)) (Via.of (oW hw 124 rfl)) e1 F_a_modCount E_a (Or.inl (oW hw 62 rfl)) (oW hw 43 rfl) (ty := .int) (by decide) rfl rfl (g := (mkF m 7 #[.val (.ref a), .val (.ref r)] [(.int (mc + (1 : Int32))), (.ref a)])) rfl rfl (hb hby own_d18_7)
  have N2 := Fr.snoc X2 N0 g_a
  refine own_st st2 ?_
  have Zs3 : n0 ≤ h2.size := Nat.le_trans Z0 (Keep.of_wr W2).1
  have Fw2 := F_a_modCount.same W2
  refine own_st (fun _ k => XS.aloadN X2.here hx rfl (hb hby own_d18_10) rfl rfl k) ?_
  refine own_st (fun _ k => XS.aloadN X2.here hx rfl (hb hby own_d18_11) rfl rfl k) ?_
  show own_Gl _ _ _ _ _ _ _ (T2.setTop (mkF m 12 #[.val (.ref a), .val (.ref r)] [(.ref r), (.ref a)]))
  refine own_st (fun _ k => XS.aloadN X2.here hx rfl (hb hby own_d18_12) rfl rfl k) ?_
  have f4 := (F_a_elementData.other W2 (Or.inr (slot_ne (Or.inl (oW hw 65 rfl)) (Or.inl (oW hw 62 rfl)) (by decide) (t := (.array (.object "java/lang/Object"))) (t' := .int) (by decide) (by decide))))
  obtain ⟨T5, X5, e5, st5⟩ := getF X2 hx hZ hown (host := "") (Or.inl (oW hw 64 rfl)) Via.refl e2 f4 (g := (mkF m 13 #[.val (.ref a), .val (.ref r)] [(.ref a), (.ref r), (.ref a)])) rfl rfl (hb hby own_d18_13)
  refine own_st st5 ?_
  refine own_st (fun _ k => XS.aloadN X5.here hx rfl (hb hby own_d18_16) rfl rfl k) ?_
  have f6 := (F_a_size.other W2 (Or.inr (slot_ne (Or.inl (oW hw 79 rfl)) (Or.inl (oW hw 62 rfl)) (by decide) (t := .int) (t' := .int) (by decide) (by decide))))
  obtain ⟨T7, X7, e7, st7⟩ := getF X5 hx hZ hown (host := "") (Or.inl (oW hw 78 rfl)) Via.refl e5 f6 (g := (mkF m 17 #[.val (.ref a), .val (.ref r)] [(.ref a), (.ref ed), (.ref r), (.ref a)])) rfl rfl (hb hby own_d18_17)
  refine own_st st7 ?_
  show own_Gl _ _ _ _ _ _ _ (T7.setTop (mkF m 20 #[.val (.ref a), .val (.ref r)] [(.int N), (.ref ed), (.ref r), (.ref a)]))
  have f9 := (E_a.wr W2)
  have f10 := (E_r.wr W2)
  have f11 := (V_ed.other W2 (Ne.symm ne_a_ed))
  obtain ⟨cq8, q8, qq8⟩ := f9.cell
  obtain ⟨_, _, ⟨T8, L8, k8, n8⟩, -, X8, ⟨Lc8, hQ8, l8, y8, z8⟩, st8⟩ := X7.privateBack hx (y := oM15) hown (mvT hZ (oW hw 125 rfl)) (mvT hZ (oW hw 126 rfl)) (mvT hZ (oW hw 128 rfl)) (Cond.privateMethod_at (mvP hZ (oW hw 127 rfl) (args := #[]))) (mvT hZ (oW hw 129 rfl)) (by decide) (backOf (W := 0) (own_add3m l Z a0 hw [] a r ed ke (mc + (1 : Int32)) N n rf h2 n0 Zs3 f9 Fw2 f4 f6 g_a g_ed ne_a_ed f10 f11 hov hNn hn) hZ (oW hw 129 rfl) (oW hw 44 rfl) (by decide) (by decide)) (g := (mkF m 20 #[.val (.ref a), .val (.ref r)] [(.int N), (.ref ed), (.ref r), (.ref a)])) rfl (by rw [hml]; rfl) (Steps.refl _) (a := a) (by rw [e7]; exact q8) qq8 (argsL := [(.ref r), (.ref ed), (.int N)]) (rest := []) (lenOf own_pd408643786 rfl) rfl (by show 2 * 0 + _ ≤ _; exact Nat.le_of_eq rfl) (hb hby own_d18_20) (fun _ _ => ⟨rfl, e7, (by decide : 0 + 0 ≤ 0), (by decide : 0 + 0 ≤ 0)⟩)
  dsimp only [Pt.U, Pt.locs, Pt.cells, Pt.slots] at X8 l8 y8 z8 st8 hQ8
  subst l8 y8 z8
  obtain ⟨hh8, eh08⟩ : ∃ z, T8.heap = z := ⟨_, rfl⟩
  rw [eh08] at hQ8
  obtain ⟨rfl, Nq8, Kq8, P8_0, P8_1, P8_2, P8_3⟩ := hQ8
  have N8 := Fr.app N2 Nq8
  refine own_tr st8 ?_
  have Zs12 : n0 ≤ hh8.size := Nat.le_trans Zs3 Kq8.1
  refine own_st (fun _ k => XS.iconst X8.here hx rfl (hb hby own_d18_23) k) ?_
  show own_Gl _ _ _ _ _ _ _ (T8.setTop (mkF m 24 #[.val (.ref a), .val (.ref r)] [(.int 1)]))
  have K13 : Keep h0 hh8 [a, ed] := (((Keep.refl h0 [a, ed]).wr W2 (Or.inl (List.mem_of_getElem? (i := 0) rfl))).trans Kq8 (allS (Or.inl (List.mem_of_getElem? (i := 0) rfl)) (allS (Or.inl (List.mem_of_getElem? (i := 1) rfl)) all0)))
  exact own_retN X8 hx hlk (t := .boolean) hret (by simp) (hb hby own_d18_24) eh08 ⟨rfl, N8, K13, P8_0, P8_1, P8_2, P8_3⟩ (by decide) (by decide)
theorem own_d7_0 : decode prog_40_method_4_code 0 = .ok (.new 32, 3) := by decide +kernel
theorem own_d7_3 : decode prog_40_method_4_code 3 = .ok (.dup, 1) := by decide +kernel
theorem own_d7_4 : decode prog_40_method_4_code 4 = .ok (.invokespecial 34, 3) := by decide +kernel
theorem own_d7_7 : decode prog_40_method_4_code 7 = .ok (.astore_n 2, 1) := by decide +kernel
theorem own_d7_8 : decode prog_40_method_4_code 8 = .ok (.aload_n 0, 1) := by decide +kernel
theorem own_d7_9 : decode prog_40_method_4_code 9 = .ok (.iload_n 1, 1) := by decide +kernel
theorem own_d7_10 : decode prog_40_method_4_code 10 = .ok (.invokevirtual 35, 3) := by decide +kernel
theorem own_d7_13 : decode prog_40_method_4_code 13 = .ok (.istore_n 3, 1) := by decide +kernel
theorem own_d7_14 : decode prog_40_method_4_code 14 = .ok (.aload_n 0, 1) := by decide +kernel
theorem own_d7_15 : decode prog_40_method_4_code 15 = .ok (.getfield 7, 3) := by decide +kernel
theorem own_d7_18 : decode prog_40_method_4_code 18 = .ok (.iload_n 3, 1) := by decide +kernel
theorem own_d7_19 : decode prog_40_method_4_code 19 = .ok (.laload, 1) := by decide +kernel
theorem own_d7_20 : decode prog_40_method_4_code 20 = .ok (.lconst 0, 1) := by decide +kernel
theorem own_d7_21 : decode prog_40_method_4_code 21 = .ok (.lcmp, 1) := by decide +kernel
theorem own_d7_22 : decode prog_40_method_4_code 22 = .ok (.ifCond .eq 38, 3) := by decide +kernel
theorem own_d7_60 : decode prog_40_method_4_code 60 = .ok (.aload_n 2, 1) := by decide +kernel
theorem own_d7_61 : decode prog_40_method_4_code 61 = .ok (.areturn, 1) := by decide +kernel
theorem own_d7_25 : decode prog_40_method_4_code 25 = .ok (.aload_n 0, 1) := by decide +kernel
theorem own_d7_26 : decode prog_40_method_4_code 26 = .ok (.getfield 13, 3) := by decide +kernel
theorem own_d7_29 : decode prog_40_method_4_code 29 = .ok (.iload_n 3, 1) := by decide +kernel
theorem own_d7_30 : decode prog_40_method_4_code 30 = .ok (.iaload, 1) := by decide +kernel
theorem own_d7_31 : decode prog_40_method_4_code 31 = .ok (.iload_n 1, 1) := by decide +kernel
theorem own_d7_32 : decode prog_40_method_4_code 32 = .ok (.if_icmp .ne 19, 3) := by decide +kernel
theorem own_d7_51 : decode prog_40_method_4_code 51 = .ok (.aload_n 0, 1) := by decide +kernel
theorem own_d7_52 : decode prog_40_method_4_code 52 = .ok (.iload_n 3, 1) := by decide +kernel
theorem own_d7_53 : decode prog_40_method_4_code 53 = .ok (.invokevirtual 49, 3) := by decide +kernel
theorem own_d7_56 : decode prog_40_method_4_code 56 = .ok (.istore_n 3, 1) := by decide +kernel
theorem own_d7_57 : decode prog_40_method_4_code 57 = .ok (.goto (-43), 3) := by decide +kernel
theorem own_d7_35 : decode prog_40_method_4_code 35 = .ok (.aload_n 2, 1) := by decide +kernel
theorem own_d7_36 : decode prog_40_method_4_code 36 = .ok (.aload_n 0, 1) := by decide +kernel
theorem own_d7_37 : decode prog_40_method_4_code 37 = .ok (.getfield 7, 3) := by decide +kernel
theorem own_d7_40 : decode prog_40_method_4_code 40 = .ok (.iload_n 3, 1) := by decide +kernel
theorem own_d7_41 : decode prog_40_method_4_code 41 = .ok (.laload, 1) := by decide +kernel
theorem own_d7_42 : decode prog_40_method_4_code 42 = .ok (.invokestatic 39, 3) := by decide +kernel
theorem own_pd940381112 : parseMethodDescriptor "(J)Ljava/lang/Long;" = some ⟨[.long], some (.object "java/lang/Long")⟩ := by decide +kernel
theorem own_d7_45 : decode prog_40_method_4_code 45 = .ok (.invokeinterface 43 2, 5) := by decide +kernel
theorem own_pd963338152 : parseMethodDescriptor "(Ljava/lang/Object;)Z" = some ⟨[(.object "java/lang/Object")], some .boolean⟩ := by decide +kernel
theorem own_d7_50 : decode prog_40_method_4_code 50 = .ok (.pop, 1) := by decide +kernel
theorem own_ef_own_off (m : MethodId) (x0 : Addr) (x1 : Int32) : entryFrame m #[(.ref x0), (.int x1)] 4 = mkF m 0 #[.val (.ref x0), .val (.int x1), .unset, .unset] [] := by first | (simp [entryFrame, mkF, argsToLocals, Value.category]; done) | rfl
def own_Q_own_off (Z : State) (a : Addr) (x : Int32) (ob : Addr) (sb : Addr) (ko : ClassId) (kh : ClassId) (z : Int32) (f : Nat → Nat) (ofs : Nat → Int64) (hs : Nat → Int32) (SS : Nat → Prop) (cn : Nat) (de : Addr) (kd : ClassId) (ca : Addr) (ccl : Cell) (h0 : Heap) (n0 : Nat) (v : Option Value) (h : Heap) (L : List Loc) : Prop := ∃ (li : Addr) (N : Int32) (ds : List Nat), (v = some (.ref li)) ∧ (Fr n0 L) ∧ (Keep h0 h []) ∧ (Exa Z h li "java/util/ArrayList") ∧ (Fld Z h li "java/util/ArrayList" "size" "I" (.int N)) ∧ (N = Int32.ofNat ds.length) ∧ (ds.Nodup) ∧ (∀ j, j ∈ ds ↔ SS j ∧ hs j = x) ∧ (ds.length ≤ 9) ∧ (own_El Z h li ofs ds)

theorem own_off (l : Launch) (Z : State) (a0 : Array Value) (hw : oT a0 Z) (ws : List Jvm.Cond) (a : Addr) (x : Int32) (ob : Addr) (sb : Addr) (ko : ClassId) (kh : ClassId) (z : Int32) (f : Nat → Nat) (ofs : Nat → Int64) (hs : Nat → Int32) (SS : Nat → Prop) (cn : Nat) (de : Addr) (kd : ClassId) (ca : Addr) (ccl : Cell) (h0 : Heap) (n0 : Nat) (Z0 : n0 ≤ h0.size) (E_a : Exa Z h0 a "com/example/assayline/assayline/core/MessageIndex") (F_a_offsets : Fld Z h0 a "com/example/assayline/assayline/core/MessageIndex" "offsets" "[J" (.ref ob)) (F_a_hashes : Fld Z h0 a "com/example/assayline/assayline/core/MessageIndex" "hashes" "[I" (.ref sb)) (V_ob : Arv Z h0 ob ko .long z (own_fj z.toNatClampNeg (fun p => ofs (f p))) (.long (0 : Int64))) (V_sb : Arv Z h0 sb kh .int z (own_fl z.toNatClampNeg (fun p => hs (f p))) (.int 0)) (hz : z = (16 : Int32) ∨ z = (32 : Int32)) (hof9 : ∀ i, i ≤ 9 → (ofs i = 0 ↔ i = 0) ∧ ofs i < (9223372036854775807 : Int64)) (hok : own_ok (own_q hs z) z.toNatClampNeg f SS cn) (hcn : cn < z.toNatClampNeg) (Old0 : Old Z n0 h0) (S_DEFAULTCAPACITY_EMPTY_ELEMENTDATA : Sta Z Z.heap "java/util/ArrayList" "DEFAULTCAPACITY_EMPTY_ELEMENTDATA" "[Ljava/lang/Object;" (.ref de)) (hdeZ : Arv Z Z.heap de kd (.object "java/lang/Object") (0 : Int32) [] .null) (S_cache : Sta Z Z.heap "java/lang/Long$LongCache" "cache" "[Ljava/lang/Long;" (.ref ca)) (hcaZ : Arr Z Z.heap ca ccl (.object "java/lang/Long")) (hcs : ccl.slots.size = (256 : Int32).toNatClampNeg) (hcacheZ : ∀ j : Int32, ¬ j < 0 → j < (256 : Int32) → ∃ r : Addr, ccl.slots[j.toNatClampNeg]? = some (.ref r) ∧ Exa Z Z.heap r "java/lang/Long" ∧ Fld Z Z.heap r "java/lang/Long" "value" "J" (.long (j - (128 : Int32)).toInt64)) :
    oMet l oM17 prog_40_method_4_code 4 (some (.object "java/util/List")) ws ⟨5, 11, 22, 69⟩ #[(.ref a), (.int x)] Z h0 (own_Q_own_off Z a x ob sb ko kh z f ofs hs SS cn de kd ca ccl h0 n0) := by
  refine oB n0 "com/example/assayline/assayline/core/MessageIndex" rfl (plainFor_of_name own_pn368460841) (fun m => own_ef_own_off m a x) ?_
  intro p e s m below meth c s₁ hZ hx hby hlk hret hml hown hnm X0 e0 N0
  have hqlt : (own_fi x z).toNatClampNeg < z.toNatClampNeg := own_natlt (own_fi_in _ _ hz).1 (own_fi_in _ _ hz).2
  obtain ⟨tt, htZ, ht0, htn⟩ := own_gap hok.cnt hcn (own_fi x z).toNatClampNeg hqlt
  show own_Gl _ _ _ _ _ _ _ (s₁.setTop (mkF m 0 #[.val (.ref a), .val (.int x), .unset, .unset] []))
  obtain ⟨T1, h1, X1, e1, E1, A1, D1, -, st1⟩ := newO X0 hx hZ hown (oW hw 42 rfl) (oW hw 43 rfl) (oW hw 44 rfl) e0 (g := (mkF m 0 #[.val (.ref a), .val (.int x), .unset, .unset] [])) rfl (hb hby own_d7_0) (by decide) (by decide)
  obtain ⟨b1, gb1⟩ : ∃ z, z = h0.size := ⟨_, rfl⟩
  rw [← gb1] at A1 D1 st1
  refine own_st st1 ?_
  have Zs2 : n0 ≤ h1.size := Nat.le_trans Z0 E1.1
  have g_b1 : n0 ≤ b1 := Nat.le_trans Z0 (Nat.le_of_eq gb1.symm)
  have gh_b1 : h0.size ≤ b1 := Nat.le_trans (Keep.refl h0 []).1 (Nat.le_of_eq gb1.symm)
  have ne_a_b1 : a ≠ b1 := Nat.ne_of_lt (Nat.lt_of_lt_of_le E_a.lt (Nat.le_of_eq gb1.symm))
  have ne_ob_b1 : ob ≠ b1 := Nat.ne_of_lt (Nat.lt_of_lt_of_le V_ob.lt (Nat.le_of_eq gb1.symm))
  have ne_sb_b1 : sb ≠ b1 := Nat.ne_of_lt (Nat.lt_of_lt_of_le V_sb.lt (Nat.le_of_eq gb1.symm))
  have F_modCount_b1 : Fld Z h1 b1 "java/util/AbstractList" "modCount" "I" (.int 0) := D1 (Or.inl (oW hw 62 rfl)) (ty := .int) (by decide)
  have F_elementData_b1 : Fld Z h1 b1 "java/util/ArrayList" "elementData" "[Ljava/lang/Object;" .null := D1 (Or.inl (oW hw 65 rfl)) (ty := (.array (.object "java/lang/Object"))) (by decide)
  have F_size_b1 : Fld Z h1 b1 "java/util/ArrayList" "size" "I" (.int 0) := D1 (Or.inl (oW hw 79 rfl)) (ty := .int) (by decide)
  refine own_st (fun _ k => XS.dup X1.here hx rfl (hb hby own_d7_3) rfl rfl k) ?_
  have f5 := (Old0.ext E1)
  have f6 := (E_a.ext E1)
  have f7 := (V_ob.ext E1)
  have f8 := (V_sb.ext E1)
  obtain ⟨_, _, ⟨T4, L4, k4, n4⟩, -, X4, ⟨Lc4, hQ4, l4, y4, z4⟩, st4⟩ := X1.specialBack hx (y := oM11) rfl hown (mvT hZ (oW hw 45 rfl)) (mvT hZ (oW hw 46 rfl)) (mvT hZ (oW hw 47 rfl)) (by decide) (backOf (W := 1) (own_alinit l Z a0 hw [] b1 de h1 n0 Zs2 A1 F_modCount_b1 F_elementData_b1 F_size_b1 g_b1 f5 S_DEFAULTCAPACITY_EMPTY_ELEMENTDATA) hZ (oW hw 47 rfl) (oW hw 44 rfl) (by decide) (by decide)) (g := (mkF m 4 #[.val (.ref a), .val (.int x), .unset, .unset] [(.ref b1), (.ref b1)])) rfl (by rw [hml]; rfl) (Steps.refl _) (a := b1) (argsL := []) (rest := [(.ref b1)]) (lenOf own_pd691897 rfl) rfl (by show 2 * 0 + _ ≤ _; exact Nat.le_of_eq rfl) (hb hby own_d7_4) (fun _ _ => ⟨rfl, e1, (by decide : 1 + 0 ≤ 11), (by decide : 3 + 0 ≤ 22)⟩)
  dsimp only [Pt.U, Pt.locs, Pt.cells, Pt.slots] at X4 l4 y4 z4 st4 hQ4
  subst l4 y4 z4
  obtain ⟨hh4, eh04⟩ : ∃ z, T4.heap = z := ⟨_, rfl⟩
  rw [eh04] at hQ4
  obtain ⟨rfl, Nq4, Kq4, P4_0, P4_1, P4_2⟩ := hQ4
  have N4 := Fr.app N0 Nq4
  refine own_tr st4 ?_
  have Zs9 : n0 ≤ hh4.size := Nat.le_trans Zs2 Kq4.1
  refine own_st (fun _ k => XS.astoreN X4.here hx rfl (hb hby own_d7_7) rfl rfl (l' := #[.val (.ref a), .val (.int x), .val (.ref b1), .unset]) rfl k) ?_
  show own_Gl _ _ _ _ _ _ _ (T4.setTop (mkF m 8 #[.val (.ref a), .val (.int x), .val (.ref b1), .unset] []))
  refine own_st (fun _ k => XS.aloadN X4.here hx rfl (hb hby own_d7_8) rfl rfl k) ?_
  refine own_st (fun _ k => XS.iloadN X4.here hx rfl (hb hby own_d7_9) rfl k) ?_
  have f11 := ((F_a_offsets.ext E1).keep Kq4 (ninS ne_a_b1 nin0))
  have f12 := (f7.keep Kq4 (ninS ne_ob_b1 nin0))
  have f13 := (f6.keep Kq4)
  have f14 := (f8.keep Kq4 (ninS ne_sb_b1 nin0))
  have f15 := (A1.keep Kq4)
  obtain ⟨cq10, q10, qq10⟩ := f13.cell
  obtain ⟨_, _, ⟨T10, L10, k10, n10⟩, -, X10, ⟨Lc10, hQ10, l10, y10, z10⟩, st10⟩ := X4.privateBack hx (y := oM1) hown (mvT hZ (oW hw 32 rfl)) (mvT hZ (oW hw 33 rfl)) (own_selpriv hZ (oW hw 3 rfl) (oW hw 34 rfl) (oW hw 33 rfl) (by decide)) (Cond.privateMethod_at (mvP hZ (oW hw 34 rfl) (args := #[]))) (mvT hZ (oW hw 35 rfl)) (by decide) (backOf (W := 0) (own_first l Z a0 hw [] a x ob ko z (own_fj z.toNatClampNeg (fun p => ofs (f p))) hh4 n0 Zs9 f11 f12 hz) hZ (oW hw 35 rfl) (oW hw 4 rfl) (by decide) (by decide)) (g := (mkF m 10 #[.val (.ref a), .val (.int x), .val (.ref b1), .unset] [(.int x), (.ref a)])) rfl (by rw [hml]; rfl) (Steps.refl _) (a := a) (by rw [eh04]; exact q10) qq10 (argsL := [(.int x)]) (rest := []) (lenOf own_pd91181837 rfl) rfl (by show 2 * 0 + _ ≤ _; exact Nat.le_of_eq rfl) (hb hby own_d7_10) (fun _ _ => ⟨rfl, eh04, (by decide : 1 + 0 ≤ 11), (by decide : 3 + 0 ≤ 22)⟩)
  dsimp only [Pt.U, Pt.locs, Pt.cells, Pt.slots] at X10 l10 y10 z10 st10 hQ10
  subst l10 y10 z10
  obtain ⟨hh10, eh010⟩ : ∃ z, T10.heap = z := ⟨_, rfl⟩
  rw [eh010] at hQ10
  obtain ⟨rfl, Nq10, eh10⟩ := hQ10
  have N10 := Fr.app N4 Nq10
  refine own_tr st10 ?_
  have e10 : T10.heap = hh4 := eh010.trans eh10
  refine own_st (fun _ k => XS.istoreN X10.here hx rfl (hb hby own_d7_13) rfl (l' := #[.val (.ref a), .val (.int x), .val (.ref b1), .val (.int (own_fi x z))]) rfl k) ?_
  show own_Gl _ _ _ _ _ _ _ (T10.setTop (mkF m 14 #[.val (.ref a), .val (.int x), .val (.ref b1), .val (.int (own_fi x z))] []))
  have J14_16 : ∀ (k16 : Nat) (T16 : State) (LL16 : List Loc) (N16 : Fr n0 LL16) (X16 : Stand p l e ⟨5, 11, 22, 69⟩ s m #[(.ref a), (.int x)] below meth c T16 LL16 11 22) (h16 : Heap) (e16 : T16.heap = h16) (su : Nat) (ix : Int32) (mc : Int32) (ed : Addr) (ke : ClassId) (rf : Nat → Addr) (Zs16 : n0 ≤ h16.size) (Kj16 : Keep h0 h16 []) (fj16_0 : Exa Z h16 a "com/example/assayline/assayline/core/MessageIndex") (fj16_1 : Fld Z h16 a "com/example/assayline/assayline/core/MessageIndex" "offsets" "[J" (.ref ob)) (fj16_2 : Fld Z h16 a "com/example/assayline/assayline/core/MessageIndex" "hashes" "[I" (.ref sb)) (fj16_3 : Arv Z h16 ob ko .long z (own_fj z.toNatClampNeg (fun p => ofs (f p))) (.long (0 : Int64))) (fj16_4 : Arv Z h16 sb kh .int z (own_fl z.toNatClampNeg (fun p => hs (f p))) (.int 0)) (fj16_5 : Exa Z h16 b1 "java/util/ArrayList") (fj16_6 : Fld Z h16 b1 "java/util/AbstractList" "modCount" "I" (.int mc)) (fj16_7 : Fld Z h16 b1 "java/util/ArrayList" "elementData" "[Ljava/lang/Object;" (.ref ed)) (fj16_8 : Fld Z h16 b1 "java/util/ArrayList" "size" "I" (.int 9)) (fj16_9 : Old Z n0 h16) (fj16_10 : Arv Z h16 ed ke (.object "java/lang/Object") (10 : Int32) (own_rl 9 rf) .null) (hix : ¬ ix < 0 ∧ ix < z) (hiu : ix.toNatClampNeg = ((own_fi x z).toNatClampNeg + su) % z.toNatClampNeg) (hsu : su ≤ tt) (hlen : (own_ds hs x f z.toNatClampNeg (own_fi x z).toNatClampNeg su).length = 9) (g_ed : n0 ≤ ed) (gh_ed : h0.size ≤ ed) (ne_ed_li : ed ≠ b1) (ne_ed_a : ed ≠ a) (ne_ed_ob : ed ≠ ob) (ne_ed_sb : ed ≠ sb) (hov : Ovr Z ke "java/lang/Object") (hel : own_He Z h16 ofs (own_ds hs x f z.toNatClampNeg (own_fi x z).toNatClampNeg su) rf) (hk16 : tt - su = k16), own_Gl p e below s (own_Q_own_off Z a x ob sb ko kh z f ofs hs SS cn de kd ca ccl h0 n0) 11 22 (T16.setTop (mkF m 14 #[.val (.ref a), .val (.int x), .val (.ref b1), .val (.int ix)] [])) := by
    intro k16
    induction k16 using Nat.strongRecOn with
    | _ k16 ih16 =>
      intro T16 LL16 N16 X16 h16 e16 su ix mc ed ke rf Zs16 Kj16 fj16_0 fj16_1 fj16_2 fj16_3 fj16_4 fj16_5 fj16_6 fj16_7 fj16_8 fj16_9 fj16_10 hix hiu hsu hlen g_ed gh_ed ne_ed_li ne_ed_a ne_ed_ob ne_ed_sb hov hel hk16
      show own_Gl _ _ _ _ _ _ _ (T16.setTop (mkF m 14 #[.val (.ref a), .val (.int x), .val (.ref b1), .val (.int ix)] []))
      refine own_st (fun _ k => XS.aloadN X16.here hx rfl (hb hby own_d7_14) rfl rfl k) ?_
      obtain ⟨T17, X17, e17, st17⟩ := getF X16 hx hZ hown (host := "") (Or.inl (oW hw 12 rfl)) Via.refl e16 fj16_1 (g := (mkF m 15 #[.val (.ref a), .val (.int x), .val (.ref b1), .val (.int ix)] [(.ref a)])) rfl rfl (hb hby own_d7_15)
      refine own_st st17 ?_
      refine own_st (fun _ k => XS.iloadN X17.here hx rfl (hb hby own_d7_18) rfl k) ?_
      obtain ⟨cl18, Ar18, qq18, Ss18, Nn18, Hh18, Gg18⟩ := id fj16_3
      have hin18 : ¬ (ix < 0 ∨ cl18.slots.size ≤ (ix).toNatClampNeg) := inb_of Ss18 hix
      have hat18 : cl18.slots[(ix).toNatClampNeg]? = some (.long (ofs (f ix.toNatClampNeg))) := Hh18.at hin18 (own_fj_get _ _ _ _ (own_natlt hix.1 hix.2))
      refine own_st (X17.laload hx (j := ix) (v := (.long (ofs (f ix.toNatClampNeg)))) (by rw [e17]; exact Ar18.1) (State.isArrayOf_alike hZ.alike Ar18.2.1) Ar18.2.2 hin18 hat18 (g := (mkF m 19 #[.val (.ref a), .val (.int x), .val (.ref b1), .val (.int ix)] [(.int ix), (.ref ob)])) rfl rfl (hb hby own_d7_19)) ?_
      show own_Gl _ _ _ _ _ _ _ (T17.setTop (mkF m 20 #[.val (.ref a), .val (.int x), .val (.ref b1), .val (.int ix)] [(.long (ofs (f ix.toNatClampNeg)))]))
      refine own_st (fun _ k => XS.lconst X17.here hx rfl (hb hby own_d7_20) k) ?_
      refine own_st (fun _ k => XS.lcmp X17.here hx rfl (hb hby own_d7_21) rfl k) ?_
      by_cases hc22 : (ofs (f ix.toNatClampNeg)) = (0 : Int64)
      · have hst : su = tt := by
          rcases Nat.lt_or_eq_of_le hsu with q | q
          · exact absurd ((hof9 _ (hok.le _)).1.mp hc22) (by rw [hiu]; exact htn su q)
          · exact q
        rw [hst] at hlen
        rw [hst] at hel
        refine own_st (fun _ k => XS.ifYes X17.here hx rfl (pc0 := 22) (pc' := 60) rfl (hb hby own_d7_22) rfl ((if0 _ _).trans (teq ((lw_eq _ _).mpr hc22)).1) (by decide) (by decide) k) ?_
        refine own_st (fun _ k => XS.aloadN X17.here hx rfl (hb hby own_d7_60) rfl rfl k) ?_
        show own_Gl _ _ _ _ _ _ _ (T17.setTop (mkF m 61 #[.val (.ref a), .val (.int x), .val (.ref b1), .val (.int ix)] [(.ref b1)]))
        exact own_retA X17 hx hlk hret rfl rfl rfl (hb hby own_d7_61) e17 ⟨b1, (9 : Int32), (own_ds hs x f z.toNatClampNeg (own_fi x z).toNatClampNeg tt), rfl, N16, Kj16, fj16_5, fj16_8, (by rw [hlen]; rfl), (own_ds_nodup hok hs x _ tt (Nat.le_of_lt htZ) htn), (own_ds_mem hok hs x _ tt (fun j e => by unfold own_q; rw [e]) ht0 htn), (by rw [hlen]; decide), (fun i hi => ⟨ed, ke, rf, fj16_7, by rw [hlen]; exact fj16_10, hel⟩)⟩ (by decide) (by decide)
      · have hlt : su + 1 ≤ tt := by
          rcases Nat.lt_or_eq_of_le hsu with q | q
          · exact q
          · exact absurd ((hof9 _ (hok.le _)).1.mpr (by rw [hiu, q]; exact ht0)) hc22
        refine own_st (fun _ k => XS.ifNo X17.here hx rfl (hb hby own_d7_22) rfl ((if0 _ _).trans (feq (mt (lw_eq _ _).mp hc22)).1) k) ?_
        refine own_st (fun _ k => XS.aloadN X17.here hx rfl (hb hby own_d7_25) rfl rfl k) ?_
        show own_Gl _ _ _ _ _ _ _ (T17.setTop (mkF m 26 #[.val (.ref a), .val (.int x), .val (.ref b1), .val (.int ix)] [(.ref a)]))
        obtain ⟨T19, X19, e19, st19⟩ := getF X17 hx hZ hown (host := "") (Or.inl (oW hw 15 rfl)) Via.refl e17 fj16_2 (g := (mkF m 26 #[.val (.ref a), .val (.int x), .val (.ref b1), .val (.int ix)] [(.ref a)])) rfl rfl (hb hby own_d7_26)
        refine own_st st19 ?_
        refine own_st (fun _ k => XS.iloadN X19.here hx rfl (hb hby own_d7_29) rfl k) ?_
        obtain ⟨cl20, Ar20, qq20, Ss20, Nn20, Hh20, Gg20⟩ := id fj16_4
        have hin20 : ¬ (ix < 0 ∨ cl20.slots.size ≤ (ix).toNatClampNeg) := inb_of Ss20 hix
        have hat20 : cl20.slots[(ix).toNatClampNeg]? = some (.int (hs (f ix.toNatClampNeg))) := Hh20.at hin20 (own_fl_get _ _ _ _ (own_natlt hix.1 hix.2))
        refine own_st (X19.iaload hx (j := ix) (v := (.int (hs (f ix.toNatClampNeg)))) (by rw [e19]; exact Ar20.1) (State.isArrayOf_alike hZ.alike Ar20.2.1) Ar20.2.2 hin20 hat20 (g := (mkF m 30 #[.val (.ref a), .val (.int x), .val (.ref b1), .val (.int ix)] [(.int ix), (.ref sb)])) rfl rfl (hb hby own_d7_30)) ?_
        refine own_st (fun _ k => XS.iloadN X19.here hx rfl (hb hby own_d7_31) rfl k) ?_
        show own_Gl _ _ _ _ _ _ _ (T19.setTop (mkF m 32 #[.val (.ref a), .val (.int x), .val (.ref b1), .val (.int ix)] [(.int x), (.int (hs (f ix.toNatClampNeg)))]))
        by_cases hc32 : (hs (f ix.toNatClampNeg)) = x
        · have hyn : hs (f (((own_fi x z).toNatClampNeg + su) % z.toNatClampNeg)) = x := by rw [← hiu]; exact hc32
          have hl1 := own_ds_len hok hs x (own_fi x z).toNatClampNeg (su + 1) (by omega) (fun u hu => htn u (by omega))
          rw [own_ds_yes _ _ _ _ _ _ hyn, List.length_append, hlen, List.length_singleton] at hl1
          exact absurd hl1 (by decide)
        · have hyn : ¬ hs (f (((own_fi x z).toNatClampNeg + su) % z.toNatClampNeg)) = x := by rw [← hiu]; exact hc32
          refine own_st (fun _ k => XS.icmpYes X19.here hx rfl (pc0 := 32) (pc' := 51) rfl (hb hby own_d7_32) rfl (feq hc32).2 (by decide) (by decide) k) ?_
          refine own_st (fun _ k => XS.aloadN X19.here hx rfl (hb hby own_d7_51) rfl rfl k) ?_
          refine own_st (fun _ k => XS.iloadN X19.here hx rfl (hb hby own_d7_52) rfl k) ?_
          obtain ⟨cq21, q21, qq21⟩ := fj16_0.cell
          obtain ⟨_, _, ⟨T21, L21, k21, n21⟩, -, X21, ⟨Lc21, hQ21, l21, y21, z21⟩, st21⟩ := X19.privateBack hx (y := oM2) hown (mvT hZ (oW hw 84 rfl)) (mvT hZ (oW hw 85 rfl)) (own_selpriv hZ (oW hw 3 rfl) (oW hw 86 rfl) (oW hw 85 rfl) (by decide)) (Cond.privateMethod_at (mvP hZ (oW hw 86 rfl) (args := #[]))) (mvT hZ (oW hw 87 rfl)) (by decide) (backOf (W := 0) (own_next l Z a0 hw [] a ix ob ko z (own_fj z.toNatClampNeg (fun p => ofs (f p))) h16 n0 Zs16 fj16_1 fj16_3 hz) hZ (oW hw 87 rfl) (oW hw 4 rfl) (by decide) (by decide)) (g := (mkF m 53 #[.val (.ref a), .val (.int x), .val (.ref b1), .val (.int ix)] [(.int ix), (.ref a)])) rfl (by rw [hml]; rfl) (Steps.refl _) (a := a) (by rw [e19]; exact q21) qq21 (argsL := [(.int ix)]) (rest := []) (lenOf own_pd91181837 rfl) rfl (by show 2 * 0 + _ ≤ _; exact Nat.le_of_eq rfl) (hb hby own_d7_53) (fun _ _ => ⟨rfl, e19, (by decide : 11 + 0 ≤ 11), (by decide : 22 + 0 ≤ 22)⟩)
          dsimp only [Pt.U, Pt.locs, Pt.cells, Pt.slots] at X21 l21 y21 z21 st21 hQ21
          subst l21 y21 z21
          obtain ⟨hh21, eh021⟩ : ∃ z, T21.heap = z := ⟨_, rfl⟩
          rw [eh021] at hQ21
          obtain ⟨rfl, Nq21, eh21⟩ := hQ21
          have N21 := Fr.app N16 Nq21
          refine own_tr st21 ?_
          have e21 : T21.heap = h16 := eh021.trans eh21
          show own_Gl _ _ _ _ _ _ _ (T21.setTop (mkF m 56 #[.val (.ref a), .val (.int x), .val (.ref b1), .val (.int ix)] [(.int (own_nxt ix z))]))
          refine own_st (fun _ k => XS.istoreN X21.here hx rfl (hb hby own_d7_56) rfl (l' := #[.val (.ref a), .val (.int x), .val (.ref b1), .val (.int (own_nxt ix z))]) rfl k) ?_
          refine own_st (fun _ k => XS.goto X21.here hx rfl (pc0 := 57) (pc' := 14) rfl (hb hby own_d7_57) (by decide) (by decide) k) ?_
          show own_Gl _ _ _ _ _ _ _ (T21.setTop (mkF m 14 #[.val (.ref a), .val (.int x), .val (.ref b1), .val (.int (own_nxt ix z))] []))
          exact ih16 _ (by omega) T21 _ N21 X21 _ e21 ((su + 1)) ((own_nxt ix z)) (mc) (ed) (ke) (rf) Zs16 Kj16 fj16_0 fj16_1 fj16_2 fj16_3 fj16_4 fj16_5 fj16_6 fj16_7 fj16_8 fj16_9 fj16_10 (own_nxt_in ix z hz hix).1 (by rw [(own_nxt_in ix z hz hix).2, hiu, Nat.mod_add_mod, Nat.add_assoc]) hlt (by rw [own_ds_no _ _ _ _ _ _ hyn]; exact hlen) g_ed gh_ed ne_ed_li ne_ed_a ne_ed_ob ne_ed_sb hov (by rw [own_ds_no _ _ _ _ _ _ hyn]; exact hel) rfl
  have J14_22 : ∀ (k22 : Nat) (T22 : State) (LL22 : List Loc) (N22 : Fr n0 LL22) (X22 : Stand p l e ⟨5, 11, 22, 69⟩ s m #[(.ref a), (.int x)] below meth c T22 LL22 10 21) (h22 : Heap) (e22 : T22.heap = h22) (su : Nat) (ix : Int32) (mc : Int32) (ed : Addr) (ke : ClassId) (rf : Nat → Addr) (Zs22 : n0 ≤ h22.size) (Kj22 : Keep h0 h22 []) (fj22_0 : Exa Z h22 a "com/example/assayline/assayline/core/MessageIndex") (fj22_1 : Fld Z h22 a "com/example/assayline/assayline/core/MessageIndex" "offsets" "[J" (.ref ob)) (fj22_2 : Fld Z h22 a "com/example/assayline/assayline/core/MessageIndex" "hashes" "[I" (.ref sb)) (fj22_3 : Arv Z h22 ob ko .long z (own_fj z.toNatClampNeg (fun p => ofs (f p))) (.long (0 : Int64))) (fj22_4 : Arv Z h22 sb kh .int z (own_fl z.toNatClampNeg (fun p => hs (f p))) (.int 0)) (fj22_5 : Exa Z h22 b1 "java/util/ArrayList") (fj22_6 : Fld Z h22 b1 "java/util/AbstractList" "modCount" "I" (.int mc)) (fj22_7 : Fld Z h22 b1 "java/util/ArrayList" "elementData" "[Ljava/lang/Object;" (.ref ed)) (fj22_8 : Fld Z h22 b1 "java/util/ArrayList" "size" "I" (.int 8)) (fj22_9 : Old Z n0 h22) (fj22_10 : Arv Z h22 ed ke (.object "java/lang/Object") (10 : Int32) (own_rl 8 rf) .null) (hix : ¬ ix < 0 ∧ ix < z) (hiu : ix.toNatClampNeg = ((own_fi x z).toNatClampNeg + su) % z.toNatClampNeg) (hsu : su ≤ tt) (hlen : (own_ds hs x f z.toNatClampNeg (own_fi x z).toNatClampNeg su).length = 8) (g_ed : n0 ≤ ed) (gh_ed : h0.size ≤ ed) (ne_ed_li : ed ≠ b1) (ne_ed_a : ed ≠ a) (ne_ed_ob : ed ≠ ob) (ne_ed_sb : ed ≠ sb) (hov : Ovr Z ke "java/lang/Object") (hel : own_He Z h22 ofs (own_ds hs x f z.toNatClampNeg (own_fi x z).toNatClampNeg su) rf) (hk22 : tt - su = k22), own_Gl p e below s (own_Q_own_off Z a x ob sb ko kh z f ofs hs SS cn de kd ca ccl h0 n0) 11 22 (T22.setTop (mkF m 14 #[.val (.ref a), .val (.int x), .val (.ref b1), .val (.int ix)] [])) := by
    intro k22
    induction k22 using Nat.strongRecOn with
    | _ k22 ih22 =>
      intro T22 LL22 N22 X22 h22 e22 su ix mc ed ke rf Zs22 Kj22 fj22_0 fj22_1 fj22_2 fj22_3 fj22_4 fj22_5 fj22_6 fj22_7 fj22_8 fj22_9 fj22_10 hix hiu hsu hlen g_ed gh_ed ne_ed_li ne_ed_a ne_ed_ob ne_ed_sb hov hel hk22
      show own_Gl _ _ _ _ _ _ _ (T22.setTop (mkF m 14 #[.val (.ref a), .val (.int x), .val (.ref b1), .val (.int ix)] []))
      refine own_st (fun _ k => XS.aloadN X22.here hx rfl (hb hby own_d7_14) rfl rfl k) ?_
      obtain ⟨T23, X23, e23, st23⟩ := getF X22 hx hZ hown (host := "") (Or.inl (oW hw 12 rfl)) Via.refl e22 fj22_1 (g := (mkF m 15 #[.val (.ref a), .val (.int x), .val (.ref b1), .val (.int ix)] [(.ref a)])) rfl rfl (hb hby own_d7_15)
      refine own_st st23 ?_
      refine own_st (fun _ k => XS.iloadN X23.here hx rfl (hb hby own_d7_18) rfl k) ?_
      obtain ⟨cl24, Ar24, qq24, Ss24, Nn24, Hh24, Gg24⟩ := id fj22_3
      have hin24 : ¬ (ix < 0 ∨ cl24.slots.size ≤ (ix).toNatClampNeg) := inb_of Ss24 hix
      have hat24 : cl24.slots[(ix).toNatClampNeg]? = some (.long (ofs (f ix.toNatClampNeg))) := Hh24.at hin24 (own_fj_get _ _ _ _ (own_natlt hix.1 hix.2))
      refine own_st (X23.laload hx (j := ix) (v := (.long (ofs (f ix.toNatClampNeg)))) (by rw [e23]; exact Ar24.1) (State.isArrayOf_alike hZ.alike Ar24.2.1) Ar24.2.2 hin24 hat24 (g := (mkF m 19 #[.val (.ref a), .val (.int x), .val (.ref b1), .val (.int ix)] [(.int ix), (.ref ob)])) rfl rfl (hb hby own_d7_19)) ?_
      show own_Gl _ _ _ _ _ _ _ (T23.setTop (mkF m 20 #[.val (.ref a), .val (.int x), .val (.ref b1), .val (.int ix)] [(.long (ofs (f ix.toNatClampNeg)))]))
      refine own_st (fun _ k => XS.lconst X23.here hx rfl (hb hby own_d7_20) k) ?_
      refine own_st (fun _ k => XS.lcmp X23.here hx rfl (hb hby own_d7_21) rfl k) ?_
      by_cases hc22 : (ofs (f ix.toNatClampNeg)) = (0 : Int64)
      · have hst : su = tt := by
          rcases Nat.lt_or_eq_of_le hsu with q | q
          · exact absurd ((hof9 _ (hok.le _)).1.mp hc22) (by rw [hiu]; exact htn su q)
          · exact q
        rw [hst] at hlen
        rw [hst] at hel
        refine own_st (fun _ k => XS.ifYes X23.here hx rfl (pc0 := 22) (pc' := 60) rfl (hb hby own_d7_22) rfl ((if0 _ _).trans (teq ((lw_eq _ _).mpr hc22)).1) (by decide) (by decide) k) ?_
        refine own_st (fun _ k => XS.aloadN X23.here hx rfl (hb hby own_d7_60) rfl rfl k) ?_
        show own_Gl _ _ _ _ _ _ _ (T23.setTop (mkF m 61 #[.val (.ref a), .val (.int x), .val (.ref b1), .val (.int ix)] [(.ref b1)]))
        exact own_retA X23 hx hlk hret rfl rfl rfl (hb hby own_d7_61) e23 ⟨b1, (8 : Int32), (own_ds hs x f z.toNatClampNeg (own_fi x z).toNatClampNeg tt), rfl, N22, Kj22, fj22_5, fj22_8, (by rw [hlen]; rfl), (own_ds_nodup hok hs x _ tt (Nat.le_of_lt htZ) htn), (own_ds_mem hok hs x _ tt (fun j e => by unfold own_q; rw [e]) ht0 htn), (by rw [hlen]; decide), (fun i hi => ⟨ed, ke, rf, fj22_7, by rw [hlen]; exact fj22_10, hel⟩)⟩ (by decide) (by decide)
      · have hlt : su + 1 ≤ tt := by
          rcases Nat.lt_or_eq_of_le hsu with q | q
          · exact q
          · exact absurd ((hof9 _ (hok.le _)).1.mpr (by rw [hiu, q]; exact ht0)) hc22
        refine own_st (fun _ k => XS.ifNo X23.here hx rfl (hb hby own_d7_22) rfl ((if0 _ _).trans (feq (mt (lw_eq _ _).mp hc22)).1) k) ?_
        refine own_st (fun _ k => XS.aloadN X23.here hx rfl (hb hby own_d7_25) rfl rfl k) ?_
        show own_Gl _ _ _ _ _ _ _ (T23.setTop (mkF m 26 #[.val (.ref a), .val (.int x), .val (.ref b1), .val (.int ix)] [(.ref a)]))
        obtain ⟨T25, X25, e25, st25⟩ := getF X23 hx hZ hown (host := "") (Or.inl (oW hw 15 rfl)) Via.refl e23 fj22_2 (g := (mkF m 26 #[.val (.ref a), .val (.int x), .val (.ref b1), .val (.int ix)] [(.ref a)])) rfl rfl (hb hby own_d7_26)
        refine own_st st25 ?_
        refine own_st (fun _ k => XS.iloadN X25.here hx rfl (hb hby own_d7_29) rfl k) ?_
        obtain ⟨cl26, Ar26, qq26, Ss26, Nn26, Hh26, Gg26⟩ := id fj22_4
        have hin26 : ¬ (ix < 0 ∨ cl26.slots.size ≤ (ix).toNatClampNeg) := inb_of Ss26 hix
        have hat26 : cl26.slots[(ix).toNatClampNeg]? = some (.int (hs (f ix.toNatClampNeg))) := Hh26.at hin26 (own_fl_get _ _ _ _ (own_natlt hix.1 hix.2))
        refine own_st (X25.iaload hx (j := ix) (v := (.int (hs (f ix.toNatClampNeg)))) (by rw [e25]; exact Ar26.1) (State.isArrayOf_alike hZ.alike Ar26.2.1) Ar26.2.2 hin26 hat26 (g := (mkF m 30 #[.val (.ref a), .val (.int x), .val (.ref b1), .val (.int ix)] [(.int ix), (.ref sb)])) rfl rfl (hb hby own_d7_30)) ?_
        refine own_st (fun _ k => XS.iloadN X25.here hx rfl (hb hby own_d7_31) rfl k) ?_
        show own_Gl _ _ _ _ _ _ _ (T25.setTop (mkF m 32 #[.val (.ref a), .val (.int x), .val (.ref b1), .val (.int ix)] [(.int x), (.int (hs (f ix.toNatClampNeg)))]))
        by_cases hc32 : (hs (f ix.toNatClampNeg)) = x
        · have hyn : hs (f (((own_fi x z).toNatClampNeg + su) % z.toNatClampNeg)) = x := by rw [← hiu]; exact hc32
          have hl1 := own_ds_len hok hs x (own_fi x z).toNatClampNeg (su + 1) (by omega) (fun u hu => htn u (by omega))
          rw [own_ds_yes _ _ _ _ _ _ hyn, List.length_append, hlen, List.length_singleton] at hl1
          refine own_st (fun _ k => XS.icmpNo X25.here hx rfl (hb hby own_d7_32) rfl (teq hc32).2 k) ?_
          refine own_st (fun _ k => XS.aloadN X25.here hx rfl (hb hby own_d7_35) rfl rfl k) ?_
          refine own_st (fun _ k => XS.aloadN X25.here hx rfl (hb hby own_d7_36) rfl rfl k) ?_
          obtain ⟨T27, X27, e27, st27⟩ := getF X25 hx hZ hown (host := "") (Or.inl (oW hw 12 rfl)) Via.refl e25 fj22_1 (g := (mkF m 37 #[.val (.ref a), .val (.int x), .val (.ref b1), .val (.int ix)] [(.ref a), (.ref b1)])) rfl rfl (hb hby own_d7_37)
          refine own_st st27 ?_
          show own_Gl _ _ _ _ _ _ _ (T27.setTop (mkF m 40 #[.val (.ref a), .val (.int x), .val (.ref b1), .val (.int ix)] [(.ref ob), (.ref b1)]))
          refine own_st (fun _ k => XS.iloadN X27.here hx rfl (hb hby own_d7_40) rfl k) ?_
          obtain ⟨cl28, Ar28, qq28, Ss28, Nn28, Hh28, Gg28⟩ := id fj22_3
          have hin28 : ¬ (ix < 0 ∨ cl28.slots.size ≤ (ix).toNatClampNeg) := inb_of Ss28 hix
          have hat28 : cl28.slots[(ix).toNatClampNeg]? = some (.long (ofs (f ix.toNatClampNeg))) := Hh28.at hin28 (own_fj_get _ _ _ _ (own_natlt hix.1 hix.2))
          refine own_st (X27.laload hx (j := ix) (v := (.long (ofs (f ix.toNatClampNeg)))) (by rw [e27]; exact Ar28.1) (State.isArrayOf_alike hZ.alike Ar28.2.1) Ar28.2.2 hin28 hat28 (g := (mkF m 41 #[.val (.ref a), .val (.int x), .val (.ref b1), .val (.int ix)] [(.int ix), (.ref ob), (.ref b1)])) rfl rfl (hb hby own_d7_41)) ?_
          obtain ⟨_, _, ⟨T29, L29, k29, n29⟩, -, X29, ⟨Lc29, hQ29, l29, y29, z29⟩, st29⟩ := Jvm.LawKit.callS X27 hx (y := oM8) hown (mvT hZ (oW hw 94 rfl)) (mvT hZ (oW hw 95 rfl)) (mvT hZ (oW hw 96 rfl)) (mvT hZ (oW hw 97 rfl)) (by decide) (backOf (W := 1) (own_valueOf l Z a0 hw [] (ofs (f ix.toNatClampNeg)) ca ccl h22 n0 Zs22 (S_cache.ext fj22_9.2) (hcaZ.ext fj22_9.2) hcs (fun j q1 q2 => (hcacheZ j q1 q2).imp fun r q => ⟨q.1, q.2.1.ext fj22_9.2, q.2.2.ext fj22_9.2⟩)) hZ (oW hw 97 rfl) (oW hw 96 rfl) (by decide) (by decide)) (g := (mkF m 42 #[.val (.ref a), .val (.int x), .val (.ref b1), .val (.int ix)] [(.long (ofs (f ix.toNatClampNeg))), (.ref b1)])) rfl (by rw [hml]; rfl) (argsL := [(.long (ofs (f ix.toNatClampNeg)))]) (rest := [(.ref b1)]) (lenOf own_pd940381112 rfl) rfl (by show 2 * 0 + _ ≤ _; exact Nat.le_of_eq rfl) (hb hby own_d7_42) (fun _ _ => ⟨rfl, e27, (by decide : 10 + 1 ≤ 11), (by decide : 21 + 1 ≤ 22)⟩)
          dsimp only [Pt.U, Pt.locs, Pt.cells, Pt.slots] at X29 l29 y29 z29 st29 hQ29
          subst l29 y29 z29
          obtain ⟨hh29, eh029⟩ : ∃ z, T29.heap = z := ⟨_, rfl⟩
          rw [eh029] at hQ29
          obtain ⟨r_29, rfl, Nq29, Kq29, P29_0, P29_1⟩ := hQ29
          have N29 := Fr.app N22 Nq29
          refine own_st st29 ?_
          have Zs30 : n0 ≤ hh29.size := Nat.le_trans Zs22 Kq29.1
          have f31 := (fj22_5.keep Kq29)
          have ne_r_li : r_29 ≠ b1 := own_exne P29_0 f31 (by decide)
          have f32 := (fj22_10.keep Kq29 nin0)
          have ne_r_ed : r_29 ≠ ed := Exa.neArv P29_0 f32 (oW hw 101 rfl)
          have hel0 := own_He_keep hel Kq29 (fun _ _ => nin0)
          have f34 := (fj22_6.keep Kq29 nin0)
          have f35 := (fj22_7.keep Kq29 nin0)
          have f36 := (fj22_8.keep Kq29 nin0)
          have f37 := (fj22_0.keep Kq29)
          have f38 := (fj22_3.keep Kq29 nin0)
          have f39 := (fj22_4.keep Kq29 nin0)
          obtain ⟨cq33, kq33, q33a, q33b, q33c⟩ := isOf hZ eh029 f31
          obtain ⟨_, _, ⟨T33, L33, k33, n33⟩, -, X33, ⟨Lc33, hQ33, l33, y33, z33⟩, st33⟩ := X29.interfaceBack hx (xi := oM18) (y := oM16) hown (mvT hZ (oW hw 115 rfl)) (mvT hZ (oW hw 116 rfl)) (mvT hZ (oW hw 117 rfl)) (mvT hZ (oW hw 118 rfl)) (mvT hZ (oW hw 119 rfl)) (mvT hZ (oW hw 120 rfl)) (mvT hZ (oW hw 121 rfl)) (mvT hZ (oW hw 76 rfl)) (by decide) (backOf (W := 0) (own_add1m l Z a0 hw [] b1 r_29 ed ke mc (8 : Int32) 8 rf hh29 n0 Zs30 f31 f34 f35 f36 g_b1 g_ed (Ne.symm ne_ed_li) P29_0 f32 hov rfl (by decide)) hZ (oW hw 122 rfl) (oW hw 44 rfl) (by decide) (by decide)) q33a q33b q33c (g := (mkF m 45 #[.val (.ref a), .val (.int x), .val (.ref b1), .val (.int ix)] [(.ref r_29), (.ref b1)])) rfl (by rw [hml]; rfl) (Steps.refl _) (argsL := [(.ref r_29)]) (rest := []) (lenOf own_pd963338152 rfl) rfl (by show 2 * 0 + _ ≤ _; exact Nat.le_of_eq rfl) (hb hby own_d7_45) (fun _ _ => ⟨rfl, eh029, (by decide : 11 + 0 ≤ 11), (by decide : 22 + 0 ≤ 22)⟩)
          dsimp only [Pt.U, Pt.locs, Pt.cells, Pt.slots] at X33 l33 y33 z33 st33 hQ33
          subst l33 y33 z33
          obtain ⟨hh33, eh033⟩ : ∃ z, T33.heap = z := ⟨_, rfl⟩
          rw [eh033] at hQ33
          obtain ⟨rfl, Nq33, Kq33, P33_0, P33_1, P33_2, P33_3⟩ := hQ33
          have N33 := Fr.app N29 Nq33
          refine own_tr st33 ?_
          have Zs40 : n0 ≤ hh33.size := Nat.le_trans Zs30 Kq33.1
          have f41 := (P29_0.keep Kq33)
          have f42 := (P29_1.keep Kq33 (ninS ne_r_li (ninS ne_r_ed nin0)))
          have hel1 := own_He_keep hel0 Kq33 (fun i hi => ninS (own_exne (hel0 i hi).1 f31 (by decide)) (ninS (Exa.neArv (hel0 i hi).1 f32 (oW hw 101 rfl)) nin0))
          have hel2 := own_He_add hel1 hlen f41 f42
          rw [hiu] at hel2
          show own_Gl _ _ _ _ _ _ _ (T33.setTop (mkF m 50 #[.val (.ref a), .val (.int x), .val (.ref b1), .val (.int ix)] [(.int 1)]))
          refine own_st (fun _ k => XS.pop X33.here hx rfl (hb hby own_d7_50) rfl rfl k) ?_
          refine own_st (fun _ k => XS.aloadN X33.here hx rfl (hb hby own_d7_51) rfl rfl k) ?_
          refine own_st (fun _ k => XS.iloadN X33.here hx rfl (hb hby own_d7_52) rfl k) ?_
          have f44 := ((fj22_1.keep Kq29 nin0).keep Kq33 (ninS ne_a_b1 (ninS (Ne.symm ne_ed_a) nin0)))
          have f45 := (f38.keep Kq33 (ninS ne_ob_b1 (ninS (Ne.symm ne_ed_ob) nin0)))
          have f46 := (f37.keep Kq33)
          have f47 := (f39.keep Kq33 (ninS ne_sb_b1 (ninS (Ne.symm ne_ed_sb) nin0)))
          have f48 := (f31.keep Kq33)
          obtain ⟨cq43, q43, qq43⟩ := f46.cell
          obtain ⟨_, _, ⟨T43, L43, k43, n43⟩, -, X43, ⟨Lc43, hQ43, l43, y43, z43⟩, st43⟩ := X33.privateBack hx (y := oM2) hown (mvT hZ (oW hw 84 rfl)) (mvT hZ (oW hw 85 rfl)) (own_selpriv hZ (oW hw 3 rfl) (oW hw 86 rfl) (oW hw 85 rfl) (by decide)) (Cond.privateMethod_at (mvP hZ (oW hw 86 rfl) (args := #[]))) (mvT hZ (oW hw 87 rfl)) (by decide) (backOf (W := 0) (own_next l Z a0 hw [] a ix ob ko z (own_fj z.toNatClampNeg (fun p => ofs (f p))) hh33 n0 Zs40 f44 f45 hz) hZ (oW hw 87 rfl) (oW hw 4 rfl) (by decide) (by decide)) (g := (mkF m 53 #[.val (.ref a), .val (.int x), .val (.ref b1), .val (.int ix)] [(.int ix), (.ref a)])) rfl (by rw [hml]; rfl) (Steps.refl _) (a := a) (by rw [eh033]; exact q43) qq43 (argsL := [(.int ix)]) (rest := []) (lenOf own_pd91181837 rfl) rfl (by show 2 * 0 + _ ≤ _; exact Nat.le_of_eq rfl) (hb hby own_d7_53) (fun _ _ => ⟨rfl, eh033, (by decide : 11 + 0 ≤ 11), (by decide : 22 + 0 ≤ 22)⟩)
          dsimp only [Pt.U, Pt.locs, Pt.cells, Pt.slots] at X43 l43 y43 z43 st43 hQ43
          subst l43 y43 z43
          obtain ⟨hh43, eh043⟩ : ∃ z, T43.heap = z := ⟨_, rfl⟩
          rw [eh043] at hQ43
          obtain ⟨rfl, Nq43, eh43⟩ := hQ43
          have N43 := Fr.app N33 Nq43
          refine own_tr st43 ?_
          have e43 : T43.heap = hh33 := eh043.trans eh43
          show own_Gl _ _ _ _ _ _ _ (T43.setTop (mkF m 56 #[.val (.ref a), .val (.int x), .val (.ref b1), .val (.int ix)] [(.int (own_nxt ix z))]))
          refine own_st (fun _ k => XS.istoreN X43.here hx rfl (hb hby own_d7_56) rfl (l' := #[.val (.ref a), .val (.int x), .val (.ref b1), .val (.int (own_nxt ix z))]) rfl k) ?_
          refine own_st (fun _ k => XS.goto X43.here hx rfl (pc0 := 57) (pc' := 14) rfl (hb hby own_d7_57) (by decide) (by decide) k) ?_
          have K49 : Keep h0 hh33 [] := ((Kj22.trans Kq29 all0).trans Kq33 (allS (Or.inr gh_b1) (allS (Or.inr gh_ed) all0)))
          have f50 := ((fj22_2.keep Kq29 nin0).keep Kq33 (ninS ne_a_b1 (ninS (Ne.symm ne_ed_a) nin0)))
          have f51 := ((fj22_9.keep Kq29 all0).keep Kq33 (allS g_b1 (allS g_ed all0)))
          show own_Gl _ _ _ _ _ _ _ (T43.setTop (mkF m 14 #[.val (.ref a), .val (.int x), .val (.ref b1), .val (.int (own_nxt ix z))] []))
          exact J14_16 _ T43 _ N43 X43 _ e43 ((su + 1)) ((own_nxt ix z)) ((mc + (1 : Int32))) (ed) (ke) ((fun i => if i = 8 then r_29 else rf i)) Zs40 K49 f46 f44 f50 f45 f47 f48 P33_0 P33_1 P33_2 f51 P33_3 (own_nxt_in ix z hz hix).1 (by rw [(own_nxt_in ix z hz hix).2, hiu, Nat.mod_add_mod, Nat.add_assoc]) hlt (by rw [own_ds_yes _ _ _ _ _ _ hyn, List.length_append, hlen]; rfl) g_ed gh_ed ne_ed_li ne_ed_a ne_ed_ob ne_ed_sb hov (by rw [own_ds_yes _ _ _ _ _ _ hyn]; exact hel2) rfl
        · have hyn : ¬ hs (f (((own_fi x z).toNatClampNeg + su) % z.toNatClampNeg)) = x := by rw [← hiu]; exact hc32
          refine own_st (fun _ k => XS.icmpYes X25.here hx rfl (pc0 := 32) (pc' := 51) rfl (hb hby own_d7_32) rfl (feq hc32).2 (by decide) (by decide) k) ?_
          refine own_st (fun _ k => XS.aloadN X25.here hx rfl (hb hby own_d7_51) rfl rfl k) ?_
          refine own_st (fun _ k => XS.iloadN X25.here hx rfl (hb hby own_d7_52) rfl k) ?_
          obtain ⟨cq52, q52, qq52⟩ := fj22_0.cell
          obtain ⟨_, _, ⟨T52, L52, k52, n52⟩, -, X52, ⟨Lc52, hQ52, l52, y52, z52⟩, st52⟩ := X25.privateBack hx (y := oM2) hown (mvT hZ (oW hw 84 rfl)) (mvT hZ (oW hw 85 rfl)) (own_selpriv hZ (oW hw 3 rfl) (oW hw 86 rfl) (oW hw 85 rfl) (by decide)) (Cond.privateMethod_at (mvP hZ (oW hw 86 rfl) (args := #[]))) (mvT hZ (oW hw 87 rfl)) (by decide) (backOf (W := 0) (own_next l Z a0 hw [] a ix ob ko z (own_fj z.toNatClampNeg (fun p => ofs (f p))) h22 n0 Zs22 fj22_1 fj22_3 hz) hZ (oW hw 87 rfl) (oW hw 4 rfl) (by decide) (by decide)) (g := (mkF m 53 #[.val (.ref a), .val (.int x), .val (.ref b1), .val (.int ix)] [(.int ix), (.ref a)])) rfl (by rw [hml]; rfl) (Steps.refl _) (a := a) (by rw [e25]; exact q52) qq52 (argsL := [(.int ix)]) (rest := []) (lenOf own_pd91181837 rfl) rfl (by show 2 * 0 + _ ≤ _; exact Nat.le_of_eq rfl) (hb hby own_d7_53) (fun _ _ => ⟨rfl, e25, (by decide : 10 + 0 ≤ 11), (by decide : 21 + 0 ≤ 22)⟩)
          dsimp only [Pt.U, Pt.locs, Pt.cells, Pt.slots] at X52 l52 y52 z52 st52 hQ52
          subst l52 y52 z52
          obtain ⟨hh52, eh052⟩ : ∃ z, T52.heap = z := ⟨_, rfl⟩
          rw [eh052] at hQ52
          obtain ⟨rfl, Nq52, eh52⟩ := hQ52
          have N52 := Fr.app N22 Nq52
          refine own_tr st52 ?_
          have e52 : T52.heap = h22 := eh052.trans eh52
          show own_Gl _ _ _ _ _ _ _ (T52.setTop (mkF m 56 #[.val (.ref a), .val (.int x), .val (.ref b1), .val (.int ix)] [(.int (own_nxt ix z))]))
          refine own_st (fun _ k => XS.istoreN X52.here hx rfl (hb hby own_d7_56) rfl (l' := #[.val (.ref a), .val (.int x), .val (.ref b1), .val (.int (own_nxt ix z))]) rfl k) ?_
          refine own_st (fun _ k => XS.goto X52.here hx rfl (pc0 := 57) (pc' := 14) rfl (hb hby own_d7_57) (by decide) (by decide) k) ?_
          show own_Gl _ _ _ _ _ _ _ (T52.setTop (mkF m 14 #[.val (.ref a), .val (.int x), .val (.ref b1), .val (.int (own_nxt ix z))] []))
          exact ih22 _ (by omega) T52 _ N52 X52 _ e52 ((su + 1)) ((own_nxt ix z)) (mc) (ed) (ke) (rf) Zs22 Kj22 fj22_0 fj22_1 fj22_2 fj22_3 fj22_4 fj22_5 fj22_6 fj22_7 fj22_8 fj22_9 fj22_10 (own_nxt_in ix z hz hix).1 (by rw [(own_nxt_in ix z hz hix).2, hiu, Nat.mod_add_mod, Nat.add_assoc]) hlt (by rw [own_ds_no _ _ _ _ _ _ hyn]; exact hlen) g_ed gh_ed ne_ed_li ne_ed_a ne_ed_ob ne_ed_sb hov (by rw [own_ds_no _ _ _ _ _ _ hyn]; exact hel) rfl
  have J14_53 : ∀ (k53 : Nat) (T53 : State) (LL53 : List Loc) (N53 : Fr n0 LL53) (X53 : Stand p l e ⟨5, 11, 22, 69⟩ s m #[(.ref a), (.int x)] below meth c T53 LL53 9 20) (h53 : Heap) (e53 : T53.heap = h53) (su : Nat) (ix : Int32) (mc : Int32) (ed : Addr) (ke : ClassId) (rf : Nat → Addr) (Zs53 : n0 ≤ h53.size) (Kj53 : Keep h0 h53 []) (fj53_0 : Exa Z h53 a "com/example/assayline/assayline/core/MessageIndex") (fj53_1 : Fld Z h53 a "com/example/assayline/assayline/core/MessageIndex" "offsets" "[J" (.ref ob)) (fj53_2 : Fld Z h53 a "com/example/assayline/assayline/core/MessageIndex" "hashes" "[I" (.ref sb)) (fj53_3 : Arv Z h53 ob ko .long z (own_fj z.toNatClampNeg (fun p => ofs (f p))) (.long (0 : Int64))) (fj53_4 : Arv Z h53 sb kh .int z (own_fl z.toNatClampNeg (fun p => hs (f p))) (.int 0)) (fj53_5 : Exa Z h53 b1 "java/util/ArrayList") (fj53_6 : Fld Z h53 b1 "java/util/AbstractList" "modCount" "I" (.int mc)) (fj53_7 : Fld Z h53 b1 "java/util/ArrayList" "elementData" "[Ljava/lang/Object;" (.ref ed)) (fj53_8 : Fld Z h53 b1 "java/util/ArrayList" "size" "I" (.int 7)) (fj53_9 : Old Z n0 h53) (fj53_10 : Arv Z h53 ed ke (.object "java/lang/Object") (10 : Int32) (own_rl 7 rf) .null) (hix : ¬ ix < 0 ∧ ix < z) (hiu : ix.toNatClampNeg = ((own_fi x z).toNatClampNeg + su) % z.toNatClampNeg) (hsu : su ≤ tt) (hlen : (own_ds hs x f z.toNatClampNeg (own_fi x z).toNatClampNeg su).length = 7) (g_ed : n0 ≤ ed) (gh_ed : h0.size ≤ ed) (ne_ed_li : ed ≠ b1) (ne_ed_a : ed ≠ a) (ne_ed_ob : ed ≠ ob) (ne_ed_sb : ed ≠ sb) (hov : Ovr Z ke "java/lang/Object") (hel : own_He Z h53 ofs (own_ds hs x f z.toNatClampNeg (own_fi x z).toNatClampNeg su) rf) (hk53 : tt - su = k53), own_Gl p e below s (own_Q_own_off Z a x ob sb ko kh z f ofs hs SS cn de kd ca ccl h0 n0) 11 22 (T53.setTop (mkF m 14 #[.val (.ref a), .val (.int x), .val (.ref b1), .val (.int ix)] [])) := by
    intro k53
    induction k53 using Nat.strongRecOn with
    | _ k53 ih53 =>
      intro T53 LL53 N53 X53 h53 e53 su ix mc ed ke rf Zs53 Kj53 fj53_0 fj53_1 fj53_2 fj53_3 fj53_4 fj53_5 fj53_6 fj53_7 fj53_8 fj53_9 fj53_10 hix hiu hsu hlen g_ed gh_ed ne_ed_li ne_ed_a ne_ed_ob ne_ed_sb hov hel hk53
      show own_Gl _ _ _ _ _ _ _ (T53.setTop (mkF m 14 #[.val (.ref a), .val (.int x), .val (.ref b1), .val (.int ix)] []))
      refine own_st (fun _ k => XS.aloadN X53.here hx rfl (hb hby own_d7_14) rfl rfl k) ?_
      obtain ⟨T54, X54, e54, st54⟩ := getF X53 hx hZ hown (host := "") (Or.inl (oW hw 12 rfl)) Via.refl e53 fj53_1 (g := (mkF m 15 #[.val (.ref a), .val (.int x), .val (.ref b1), .val (.int ix)] [(.ref a)])) rfl rfl (hb hby own_d7_15)
      refine own_st st54 ?_
      refine own_st (fun _ k => XS.iloadN X54.here hx rfl (hb hby own_d7_18) rfl k) ?_
      obtain ⟨cl55, Ar55, qq55, Ss55, Nn55, Hh55, Gg55⟩ := id fj53_3
      have hin55 : ¬ (ix < 0 ∨ cl55.slots.size ≤ (ix).toNatClampNeg) := inb_of Ss55 hix
      have hat55 : cl55.slots[(ix).toNatClampNeg]? = some (.long (ofs (f ix.toNatClampNeg))) := Hh55.at hin55 (own_fj_get _ _ _ _ (own_natlt hix.1 hix.2))
      refine own_st (X54.laload hx (j := ix) (v := (.long (ofs (f ix.toNatClampNeg)))) (by rw [e54]; exact Ar55.1) (State.isArrayOf_alike hZ.alike Ar55.2.1) Ar55.2.2 hin55 hat55 (g := (mkF m 19 #[.val (.ref a), .val (.int x), .val (.ref b1), .val (.int ix)] [(.int ix), (.ref ob)])) rfl rfl (hb hby own_d7_19)) ?_
      show own_Gl _ _ _ _ _ _ _ (T54.setTop (mkF m 20 #[.val (.ref a), .val (.int x), .val (.ref b1), .val (.int ix)] [(.long (ofs (f ix.toNatClampNeg)))]))
      refine own_st (fun _ k => XS.lconst X54.here hx rfl (hb hby own_d7_20) k) ?_
      refine own_st (fun _ k => XS.lcmp X54.here hx rfl (hb hby own_d7_21) rfl k) ?_
      by_cases hc22 : (ofs (f ix.toNatClampNeg)) = (0 : Int64)
      · have hst : su = tt := by
          rcases Nat.lt_or_eq_of_le hsu with q | q
          · exact absurd ((hof9 _ (hok.le _)).1.mp hc22) (by rw [hiu]; exact htn su q)
          · exact q
        rw [hst] at hlen
        rw [hst] at hel
        refine own_st (fun _ k => XS.ifYes X54.here hx rfl (pc0 := 22) (pc' := 60) rfl (hb hby own_d7_22) rfl ((if0 _ _).trans (teq ((lw_eq _ _).mpr hc22)).1) (by decide) (by decide) k) ?_
        refine own_st (fun _ k => XS.aloadN X54.here hx rfl (hb hby own_d7_60) rfl rfl k) ?_
        show own_Gl _ _ _ _ _ _ _ (T54.setTop (mkF m 61 #[.val (.ref a), .val (.int x), .val (.ref b1), .val (.int ix)] [(.ref b1)]))
        exact own_retA X54 hx hlk hret rfl rfl rfl (hb hby own_d7_61) e54 ⟨b1, (7 : Int32), (own_ds hs x f z.toNatClampNeg (own_fi x z).toNatClampNeg tt), rfl, N53, Kj53, fj53_5, fj53_8, (by rw [hlen]; rfl), (own_ds_nodup hok hs x _ tt (Nat.le_of_lt htZ) htn), (own_ds_mem hok hs x _ tt (fun j e => by unfold own_q; rw [e]) ht0 htn), (by rw [hlen]; decide), (fun i hi => ⟨ed, ke, rf, fj53_7, by rw [hlen]; exact fj53_10, hel⟩)⟩ (by decide) (by decide)
      · have hlt : su + 1 ≤ tt := by
          rcases Nat.lt_or_eq_of_le hsu with q | q
          · exact q
          · exact absurd ((hof9 _ (hok.le _)).1.mpr (by rw [hiu, q]; exact ht0)) hc22
        refine own_st (fun _ k => XS.ifNo X54.here hx rfl (hb hby own_d7_22) rfl ((if0 _ _).trans (feq (mt (lw_eq _ _).mp hc22)).1) k) ?_
        refine own_st (fun _ k => XS.aloadN X54.here hx rfl (hb hby own_d7_25) rfl rfl k) ?_
        show own_Gl _ _ _ _ _ _ _ (T54.setTop (mkF m 26 #[.val (.ref a), .val (.int x), .val (.ref b1), .val (.int ix)] [(.ref a)]))
        obtain ⟨T56, X56, e56, st56⟩ := getF X54 hx hZ hown (host := "") (Or.inl (oW hw 15 rfl)) Via.refl e54 fj53_2 (g := (mkF m 26 #[.val (.ref a), .val (.int x), .val (.ref b1), .val (.int ix)] [(.ref a)])) rfl rfl (hb hby own_d7_26)
        refine own_st st56 ?_
        refine own_st (fun _ k => XS.iloadN X56.here hx rfl (hb hby own_d7_29) rfl k) ?_
        obtain ⟨cl57, Ar57, qq57, Ss57, Nn57, Hh57, Gg57⟩ := id fj53_4
        have hin57 : ¬ (ix < 0 ∨ cl57.slots.size ≤ (ix).toNatClampNeg) := inb_of Ss57 hix
        have hat57 : cl57.slots[(ix).toNatClampNeg]? = some (.int (hs (f ix.toNatClampNeg))) := Hh57.at hin57 (own_fl_get _ _ _ _ (own_natlt hix.1 hix.2))
        refine own_st (X56.iaload hx (j := ix) (v := (.int (hs (f ix.toNatClampNeg)))) (by rw [e56]; exact Ar57.1) (State.isArrayOf_alike hZ.alike Ar57.2.1) Ar57.2.2 hin57 hat57 (g := (mkF m 30 #[.val (.ref a), .val (.int x), .val (.ref b1), .val (.int ix)] [(.int ix), (.ref sb)])) rfl rfl (hb hby own_d7_30)) ?_
        refine own_st (fun _ k => XS.iloadN X56.here hx rfl (hb hby own_d7_31) rfl k) ?_
        show own_Gl _ _ _ _ _ _ _ (T56.setTop (mkF m 32 #[.val (.ref a), .val (.int x), .val (.ref b1), .val (.int ix)] [(.int x), (.int (hs (f ix.toNatClampNeg)))]))
        by_cases hc32 : (hs (f ix.toNatClampNeg)) = x
        · have hyn : hs (f (((own_fi x z).toNatClampNeg + su) % z.toNatClampNeg)) = x := by rw [← hiu]; exact hc32
          have hl1 := own_ds_len hok hs x (own_fi x z).toNatClampNeg (su + 1) (by omega) (fun u hu => htn u (by omega))
          rw [own_ds_yes _ _ _ _ _ _ hyn, List.length_append, hlen, List.length_singleton] at hl1
          refine own_st (fun _ k => XS.icmpNo X56.here hx rfl (hb hby own_d7_32) rfl (teq hc32).2 k) ?_
          refine own_st (fun _ k => XS.aloadN X56.here hx rfl (hb hby own_d7_35) rfl rfl k) ?_
          refine own_st (fun _ k => XS.aloadN X56.here hx rfl (hb hby own_d7_36) rfl rfl k) ?_
          obtain ⟨T58, X58, e58, st58⟩ := getF X56 hx hZ hown (host := "") (Or.inl (oW hw 12 rfl)) Via.refl e56 fj53_1 (g := (mkF m 37 #[.val (.ref a), .val (.int x), .val (.ref b1), .val (.int ix)] [(.ref a), (.ref b1)])) rfl rfl (hb hby own_d7_37)
          refine own_st st58 ?_
          show own_Gl _ _ _ _ _ _ _ (T58.setTop (mkF m 40 #[.val (.ref a), .val (.int x), .val (.ref b1), .val (.int ix)] [(.ref ob), (.ref b1)]))
          refine own_st (fun _ k => XS.iloadN X58.here hx rfl (hb hby own_d7_40) rfl k) ?_
          obtain ⟨cl59, Ar59, qq59, Ss59, Nn59, Hh59, Gg59⟩ := id fj53_3
          have hin59 : ¬ (ix < 0 ∨ cl59.slots.size ≤ (ix).toNatClampNeg) := inb_of Ss59 hix
          have hat59 : cl59.slots[(ix).toNatClampNeg]? = some (.long (ofs (f ix.toNatClampNeg))) := Hh59.at hin59 (own_fj_get _ _ _ _ (own_natlt hix.1 hix.2))
          refine own_st (X58.laload hx (j := ix) (v := (.long (ofs (f ix.toNatClampNeg)))) (by rw [e58]; exact Ar59.1) (State.isArrayOf_alike hZ.alike Ar59.2.1) Ar59.2.2 hin59 hat59 (g := (mkF m 41 #[.val (.ref a), .val (.int x), .val (.ref b1), .val (.int ix)] [(.int ix), (.ref ob), (.ref b1)])) rfl rfl (hb hby own_d7_41)) ?_
          obtain ⟨_, _, ⟨T60, L60, k60, n60⟩, -, X60, ⟨Lc60, hQ60, l60, y60, z60⟩, st60⟩ := Jvm.LawKit.callS X58 hx (y := oM8) hown (mvT hZ (oW hw 94 rfl)) (mvT hZ (oW hw 95 rfl)) (mvT hZ (oW hw 96 rfl)) (mvT hZ (oW hw 97 rfl)) (by decide) (backOf (W := 1) (own_valueOf l Z a0 hw [] (ofs (f ix.toNatClampNeg)) ca ccl h53 n0 Zs53 (S_cache.ext fj53_9.2) (hcaZ.ext fj53_9.2) hcs (fun j q1 q2 => (hcacheZ j q1 q2).imp fun r q => ⟨q.1, q.2.1.ext fj53_9.2, q.2.2.ext fj53_9.2⟩)) hZ (oW hw 97 rfl) (oW hw 96 rfl) (by decide) (by decide)) (g := (mkF m 42 #[.val (.ref a), .val (.int x), .val (.ref b1), .val (.int ix)] [(.long (ofs (f ix.toNatClampNeg))), (.ref b1)])) rfl (by rw [hml]; rfl) (argsL := [(.long (ofs (f ix.toNatClampNeg)))]) (rest := [(.ref b1)]) (lenOf own_pd940381112 rfl) rfl (by show 2 * 0 + _ ≤ _; exact Nat.le_of_eq rfl) (hb hby own_d7_42) (fun _ _ => ⟨rfl, e58, (by decide : 9 + 1 ≤ 11), (by decide : 20 + 1 ≤ 22)⟩)
          dsimp only [Pt.U, Pt.locs, Pt.cells, Pt.slots] at X60 l60 y60 z60 st60 hQ60
          subst l60 y60 z60
          obtain ⟨hh60, eh060⟩ : ∃ z, T60.heap = z := ⟨_, rfl⟩
          rw [eh060] at hQ60
          obtain ⟨r_60, rfl, Nq60, Kq60, P60_0, P60_1⟩ := hQ60
          have N60 := Fr.app N53 Nq60
          refine own_st st60 ?_
          have Zs61 : n0 ≤ hh60.size := Nat.le_trans Zs53 Kq60.1
          have f62 := (fj53_5.keep Kq60)
          have ne_r_li : r_60 ≠ b1 := own_exne P60_0 f62 (by decide)
          have f63 := (fj53_10.keep Kq60 nin0)
          have ne_r_ed : r_60 ≠ ed := Exa.neArv P60_0 f63 (oW hw 101 rfl)
          have hel0 := own_He_keep hel Kq60 (fun _ _ => nin0)
          have f65 := (fj53_6.keep Kq60 nin0)
          have f66 := (fj53_7.keep Kq60 nin0)
          have f67 := (fj53_8.keep Kq60 nin0)
          have f68 := (fj53_0.keep Kq60)
          have f69 := (fj53_3.keep Kq60 nin0)
          have f70 := (fj53_4.keep Kq60 nin0)
          obtain ⟨cq64, kq64, q64a, q64b, q64c⟩ := isOf hZ eh060 f62
          obtain ⟨_, _, ⟨T64, L64, k64, n64⟩, -, X64, ⟨Lc64, hQ64, l64, y64, z64⟩, st64⟩ := X60.interfaceBack hx (xi := oM18) (y := oM16) hown (mvT hZ (oW hw 115 rfl)) (mvT hZ (oW hw 116 rfl)) (mvT hZ (oW hw 117 rfl)) (mvT hZ (oW hw 118 rfl)) (mvT hZ (oW hw 119 rfl)) (mvT hZ (oW hw 120 rfl)) (mvT hZ (oW hw 121 rfl)) (mvT hZ (oW hw 76 rfl)) (by decide) (backOf (W := 0) (own_add1m l Z a0 hw [] b1 r_60 ed ke mc (7 : Int32) 7 rf hh60 n0 Zs61 f62 f65 f66 f67 g_b1 g_ed (Ne.symm ne_ed_li) P60_0 f63 hov rfl (by decide)) hZ (oW hw 122 rfl) (oW hw 44 rfl) (by decide) (by decide)) q64a q64b q64c (g := (mkF m 45 #[.val (.ref a), .val (.int x), .val (.ref b1), .val (.int ix)] [(.ref r_60), (.ref b1)])) rfl (by rw [hml]; rfl) (Steps.refl _) (argsL := [(.ref r_60)]) (rest := []) (lenOf own_pd963338152 rfl) rfl (by show 2 * 0 + _ ≤ _; exact Nat.le_of_eq rfl) (hb hby own_d7_45) (fun _ _ => ⟨rfl, eh060, (by decide : 10 + 0 ≤ 11), (by decide : 21 + 0 ≤ 22)⟩)
          dsimp only [Pt.U, Pt.locs, Pt.cells, Pt.slots] at X64 l64 y64 z64 st64 hQ64
          subst l64 y64 z64
          obtain ⟨hh64, eh064⟩ : ∃ z, T64.heap = z := ⟨_, rfl⟩
          rw [eh064] at hQ64
          obtain ⟨rfl, Nq64, Kq64, P64_0, P64_1, P64_2, P64_3⟩ := hQ64
          have N64 := Fr.app N60 Nq64
          refine own_tr st64 ?_
          have Zs71 : n0 ≤ hh64.size := Nat.le_trans Zs61 Kq64.1
          have f72 := (P60_0.keep Kq64)
          have f73 := (P60_1.keep Kq64 (ninS ne_r_li (ninS ne_r_ed nin0)))
          have hel1 := own_He_keep hel0 Kq64 (fun i hi => ninS (own_exne (hel0 i hi).1 f62 (by decide)) (ninS (Exa.neArv (hel0 i hi).1 f63 (oW hw 101 rfl)) nin0))
          have hel2 := own_He_add hel1 hlen f72 f73
          rw [hiu] at hel2
          show own_Gl _ _ _ _ _ _ _ (T64.setTop (mkF m 50 #[.val (.ref a), .val (.int x), .val (.ref b1), .val (.int ix)] [(.int 1)]))
          refine own_st (fun _ k => XS.pop X64.here hx rfl (hb hby own_d7_50) rfl rfl k) ?_
          refine own_st (fun _ k => XS.aloadN X64.here hx rfl (hb hby own_d7_51) rfl rfl k) ?_
          refine own_st (fun _ k => XS.iloadN X64.here hx rfl (hb hby own_d7_52) rfl k) ?_
          have f75 := ((fj53_1.keep Kq60 nin0).keep Kq64 (ninS ne_a_b1 (ninS (Ne.symm ne_ed_a) nin0)))
          have f76 := (f69.keep Kq64 (ninS ne_ob_b1 (ninS (Ne.symm ne_ed_ob) nin0)))
          have f77 := (f68.keep Kq64)
          have f78 := (f70.keep Kq64 (ninS ne_sb_b1 (ninS (Ne.symm ne_ed_sb) nin0)))
          have f79 := (f62.keep Kq64)
          obtain ⟨cq74, q74, qq74⟩ := f77.cell
          obtain ⟨_, _, ⟨T74, L74, k74, n74⟩, -, X74, ⟨Lc74, hQ74, l74, y74, z74⟩, st74⟩ := X64.privateBack hx (y := oM2) hown (mvT hZ (oW hw 84 rfl)) (mvT hZ (oW hw 85 rfl)) (own_selpriv hZ (oW hw 3 rfl) (oW hw 86 rfl) (oW hw 85 rfl) (by decide)) (Cond.privateMethod_at (mvP hZ (oW hw 86 rfl) (args := #[]))) (mvT hZ (oW hw 87 rfl)) (by decide) (backOf (W := 0) (own_next l Z a0 hw [] a ix ob ko z (own_fj z.toNatClampNeg (fun p => ofs (f p))) hh64 n0 Zs71 f75 f76 hz) hZ (oW hw 87 rfl) (oW hw 4 rfl) (by decide) (by decide)) (g := (mkF m 53 #[.val (.ref a), .val (.int x), .val (.ref b1), .val (.int ix)] [(.int ix), (.ref a)])) rfl (by rw [hml]; rfl) (Steps.refl _) (a := a) (by rw [eh064]; exact q74) qq74 (argsL := [(.int ix)]) (rest := []) (lenOf own_pd91181837 rfl) rfl (by show 2 * 0 + _ ≤ _; exact Nat.le_of_eq rfl) (hb hby own_d7_53) (fun _ _ => ⟨rfl, eh064, (by decide : 10 + 0 ≤ 11), (by decide : 21 + 0 ≤ 22)⟩)
          dsimp only [Pt.U, Pt.locs, Pt.cells, Pt.slots] at X74 l74 y74 z74 st74 hQ74
          subst l74 y74 z74
          obtain ⟨hh74, eh074⟩ : ∃ z, T74.heap = z := ⟨_, rfl⟩
          rw [eh074] at hQ74
          obtain ⟨rfl, Nq74, eh74⟩ := hQ74
          have N74 := Fr.app N64 Nq74
          refine own_tr st74 ?_
          have e74 : T74.heap = hh64 := eh074.trans eh74
          show own_Gl _ _ _ _ _ _ _ (T74.setTop (mkF m 56 #[.val (.ref a), .val (.int x), .val (.ref b1), .val (.int ix)] [(.int (own_nxt ix z))]))
          refine own_st (fun _ k => XS.istoreN X74.here hx rfl (hb hby own_d7_56) rfl (l' := #[.val (.ref a), .val (.int x), .val (.ref b1), .val (.int (own_nxt ix z))]) rfl k) ?_
          refine own_st (fun _ k => XS.goto X74.here hx rfl (pc0 := 57) (pc' := 14) rfl (hb hby own_d7_57) (by decide) (by decide) k) ?_
          have K80 : Keep h0 hh64 [] := ((Kj53.trans Kq60 all0).trans Kq64 (allS (Or.inr gh_b1) (allS (Or.inr gh_ed) all0)))
          have f81 := ((fj53_2.keep Kq60 nin0).keep Kq64 (ninS ne_a_b1 (ninS (Ne.symm ne_ed_a) nin0)))
          have f82 := ((fj53_9.keep Kq60 all0).keep Kq64 (allS g_b1 (allS g_ed all0)))
          show own_Gl _ _ _ _ _ _ _ (T74.setTop (mkF m 14 #[.val (.ref a), .val (.int x), .val (.ref b1), .val (.int (own_nxt ix z))] []))
          exact J14_22 _ T74 _ N74 X74 _ e74 ((su + 1)) ((own_nxt ix z)) ((mc + (1 : Int32))) (ed) (ke) ((fun i => if i = 7 then r_60 else rf i)) Zs71 K80 f77 f75 f81 f76 f78 f79 P64_0 P64_1 P64_2 f82 P64_3 (own_nxt_in ix z hz hix).1 (by rw [(own_nxt_in ix z hz hix).2, hiu, Nat.mod_add_mod, Nat.add_assoc]) hlt (by rw [own_ds_yes _ _ _ _ _ _ hyn, List.length_append, hlen]; rfl) g_ed gh_ed ne_ed_li ne_ed_a ne_ed_ob ne_ed_sb hov (by rw [own_ds_yes _ _ _ _ _ _ hyn]; exact hel2) rfl
        · have hyn : ¬ hs (f (((own_fi x z).toNatClampNeg + su) % z.toNatClampNeg)) = x := by rw [← hiu]; exact hc32
          refine own_st (fun _ k => XS.icmpYes X56.here hx rfl (pc0 := 32) (pc' := 51) rfl (hb hby own_d7_32) rfl (feq hc32).2 (by decide) (by decide) k) ?_
          refine own_st (fun _ k => XS.aloadN X56.here hx rfl (hb hby own_d7_51) rfl rfl k) ?_
          refine own_st (fun _ k => XS.iloadN X56.here hx rfl (hb hby own_d7_52) rfl k) ?_
          obtain ⟨cq83, q83, qq83⟩ := fj53_0.cell
          obtain ⟨_, _, ⟨T83, L83, k83, n83⟩, -, X83, ⟨Lc83, hQ83, l83, y83, z83⟩, st83⟩ := X56.privateBack hx (y := oM2) hown (mvT hZ (oW hw 84 rfl)) (mvT hZ (oW hw 85 rfl)) (own_selpriv hZ (oW hw 3 rfl) (oW hw 86 rfl) (oW hw 85 rfl) (by decide)) (Cond.privateMethod_at (mvP hZ (oW hw 86 rfl) (args := #[]))) (mvT hZ (oW hw 87 rfl)) (by decide) (backOf (W := 0) (own_next l Z a0 hw [] a ix ob ko z (own_fj z.toNatClampNeg (fun p => ofs (f p))) h53 n0 Zs53 fj53_1 fj53_3 hz) hZ (oW hw 87 rfl) (oW hw 4 rfl) (by decide) (by decide)) (g := (mkF m 53 #[.val (.ref a), .val (.int x), .val (.ref b1), .val (.int ix)] [(.int ix), (.ref a)])) rfl (by rw [hml]; rfl) (Steps.refl _) (a := a) (by rw [e56]; exact q83) qq83 (argsL := [(.int ix)]) (rest := []) (lenOf own_pd91181837 rfl) rfl (by show 2 * 0 + _ ≤ _; exact Nat.le_of_eq rfl) (hb hby own_d7_53) (fun _ _ => ⟨rfl, e56, (by decide : 9 + 0 ≤ 11), (by decide : 20 + 0 ≤ 22)⟩)
          dsimp only [Pt.U, Pt.locs, Pt.cells, Pt.slots] at X83 l83 y83 z83 st83 hQ83
          subst l83 y83 z83
          obtain ⟨hh83, eh083⟩ : ∃ z, T83.heap = z := ⟨_, rfl⟩
          rw [eh083] at hQ83
          obtain ⟨rfl, Nq83, eh83⟩ := hQ83
          have N83 := Fr.app N53 Nq83
          refine own_tr st83 ?_
          have e83 : T83.heap = h53 := eh083.trans eh83
          show own_Gl _ _ _ _ _ _ _ (T83.setTop (mkF m 56 #[.val (.ref a), .val (.int x), .val (.ref b1), .val (.int ix)] [(.int (own_nxt ix z))]))
          refine own_st (fun _ k => XS.istoreN X83.here hx rfl (hb hby own_d7_56) rfl (l' := #[.val (.ref a), .val (.int x), .val (.ref b1), .val (.int (own_nxt ix z))]) rfl k) ?_
          refine own_st (fun _ k => XS.goto X83.here hx rfl (pc0 := 57) (pc' := 14) rfl (hb hby own_d7_57) (by decide) (by decide) k) ?_
          show own_Gl _ _ _ _ _ _ _ (T83.setTop (mkF m 14 #[.val (.ref a), .val (.int x), .val (.ref b1), .val (.int (own_nxt ix z))] []))
          exact ih53 _ (by omega) T83 _ N83 X83 _ e83 ((su + 1)) ((own_nxt ix z)) (mc) (ed) (ke) (rf) Zs53 Kj53 fj53_0 fj53_1 fj53_2 fj53_3 fj53_4 fj53_5 fj53_6 fj53_7 fj53_8 fj53_9 fj53_10 (own_nxt_in ix z hz hix).1 (by rw [(own_nxt_in ix z hz hix).2, hiu, Nat.mod_add_mod, Nat.add_assoc]) hlt (by rw [own_ds_no _ _ _ _ _ _ hyn]; exact hlen) g_ed gh_ed ne_ed_li ne_ed_a ne_ed_ob ne_ed_sb hov (by rw [own_ds_no _ _ _ _ _ _ hyn]; exact hel) rfl
  have J14_84 : ∀ (k84 : Nat) (T84 : State) (LL84 : List Loc) (N84 : Fr n0 LL84) (X84 : Stand p l e ⟨5, 11, 22, 69⟩ s m #[(.ref a), (.int x)] below meth c T84 LL84 8 19) (h84 : Heap) (e84 : T84.heap = h84) (su : Nat) (ix : Int32) (mc : Int32) (ed : Addr) (ke : ClassId) (rf : Nat → Addr) (Zs84 : n0 ≤ h84.size) (Kj84 : Keep h0 h84 []) (fj84_0 : Exa Z h84 a "com/example/assayline/assayline/core/MessageIndex") (fj84_1 : Fld Z h84 a "com/example/assayline/assayline/core/MessageIndex" "offsets" "[J" (.ref ob)) (fj84_2 : Fld Z h84 a "com/example/assayline/assayline/core/MessageIndex" "hashes" "[I" (.ref sb)) (fj84_3 : Arv Z h84 ob ko .long z (own_fj z.toNatClampNeg (fun p => ofs (f p))) (.long (0 : Int64))) (fj84_4 : Arv Z h84 sb kh .int z (own_fl z.toNatClampNeg (fun p => hs (f p))) (.int 0)) (fj84_5 : Exa Z h84 b1 "java/util/ArrayList") (fj84_6 : Fld Z h84 b1 "java/util/AbstractList" "modCount" "I" (.int mc)) (fj84_7 : Fld Z h84 b1 "java/util/ArrayList" "elementData" "[Ljava/lang/Object;" (.ref ed)) (fj84_8 : Fld Z h84 b1 "java/util/ArrayList" "size" "I" (.int 6)) (fj84_9 : Old Z n0 h84) (fj84_10 : Arv Z h84 ed ke (.object "java/lang/Object") (10 : Int32) (own_rl 6 rf) .null) (hix : ¬ ix < 0 ∧ ix < z) (hiu : ix.toNatClampNeg = ((own_fi x z).toNatClampNeg + su) % z.toNatClampNeg) (hsu : su ≤ tt) (hlen : (own_ds hs x f z.toNatClampNeg (own_fi x z).toNatClampNeg su).length = 6) (g_ed : n0 ≤ ed) (gh_ed : h0.size ≤ ed) (ne_ed_li : ed ≠ b1) (ne_ed_a : ed ≠ a) (ne_ed_ob : ed ≠ ob) (ne_ed_sb : ed ≠ sb) (hov : Ovr Z ke "java/lang/Object") (hel : own_He Z h84 ofs (own_ds hs x f z.toNatClampNeg (own_fi x z).toNatClampNeg su) rf) (hk84 : tt - su = k84), own_Gl p e below s (own_Q_own_off Z a x ob sb ko kh z f ofs hs SS cn de kd ca ccl h0 n0) 11 22 (T84.setTop (mkF m 14 #[.val (.ref a), .val (.int x), .val (.ref b1), .val (.int ix)] [])) := by
    intro k84
    induction k84 using Nat.strongRecOn with
    | _ k84 ih84 =>
      intro T84 LL84 N84 X84 h84 e84 su ix mc ed ke rf Zs84 Kj84 fj84_0 fj84_1 fj84_2 fj84_3 fj84_4 fj84_5 fj84_6 fj84_7 fj84_8 fj84_9 fj84_10 hix hiu hsu hlen g_ed gh_ed ne_ed_li ne_ed_a ne_ed_ob ne_ed_sb hov hel hk84
      show own_Gl _ _ _ _ _ _ _ (T84.setTop (mkF m 14 #[.val (.ref a), .val (.int x), .val (.ref b1), .val (.int ix)] []))
      refine own_st (fun _ k => XS.aloadN X84.here hx rfl (hb hby own_d7_14) rfl rfl k) ?_
      obtain ⟨T85, X85, e85, st85⟩ := getF X84 hx hZ hown (host := "") (Or.inl (oW hw 12 rfl)) Via.refl e84 fj84_1 (g := (mkF m 15 #[.val (.ref a), .val (.int x), .val (.ref b1), .val (.int ix)] [(.ref a)])) rfl rfl (hb hby own_d7_15)
      refine own_st st85 ?_
      refine own_st (fun _ k => XS.iloadN X85.here hx rfl (hb hby own_d7_18) rfl k) ?_
      obtain ⟨cl86, Ar86, qq86, Ss86, Nn86, Hh86, Gg86⟩ := id fj84_3
      have hin86 : ¬ (ix < 0 ∨ cl86.slots.size ≤ (ix).toNatClampNeg) := inb_of Ss86 hix
      have hat86 : cl86.slots[(ix).toNatClampNeg]? = some (.long (ofs (f ix.toNatClampNeg))) := Hh86.at hin86 (own_fj_get _ _ _ _ (own_natlt hix.1 hix.2))
      refine own_st (X85.laload hx (j := ix) (v := (.long (ofs (f ix.toNatClampNeg)))) (by rw [e85]; exact Ar86.1) (State.isArrayOf_alike hZ.alike Ar86.2.1) Ar86.2.2 hin86 hat86 (g := (mkF m 19 #[.val (.ref a), .val (.int x), .val (.ref b1), .val (.int ix)] [(.int ix), (.ref ob)])) rfl rfl (hb hby own_d7_19)) ?_
      show own_Gl _ _ _ _ _ _ _ (T85.setTop (mkF m 20 #[.val (.ref a), .val (.int x), .val (.ref b1), .val (.int ix)] [(.long (ofs (f ix.toNatClampNeg)))]))
      refine own_st (fun _ k => XS.lconst X85.here hx rfl (hb hby own_d7_20) k) ?_
      refine own_st (fun _ k => XS.lcmp X85.here hx rfl (hb hby own_d7_21) rfl k) ?_
      by_cases hc22 : (ofs (f ix.toNatClampNeg)) = (0 : Int64)
      · have hst : su = tt := by
          rcases Nat.lt_or_eq_of_le hsu with q | q
          · exact absurd ((hof9 _ (hok.le _)).1.mp hc22) (by rw [hiu]; exact htn su q)
          · exact q
        rw [hst] at hlen
        rw [hst] at hel
        refine own_st (fun _ k => XS.ifYes X85.here hx rfl (pc0 := 22) (pc' := 60) rfl (hb hby own_d7_22) rfl ((if0 _ _).trans (teq ((lw_eq _ _).mpr hc22)).1) (by decide) (by decide) k) ?_
        refine own_st (fun _ k => XS.aloadN X85.here hx rfl (hb hby own_d7_60) rfl rfl k) ?_
        show own_Gl _ _ _ _ _ _ _ (T85.setTop (mkF m 61 #[.val (.ref a), .val (.int x), .val (.ref b1), .val (.int ix)] [(.ref b1)]))
        exact own_retA X85 hx hlk hret rfl rfl rfl (hb hby own_d7_61) e85 ⟨b1, (6 : Int32), (own_ds hs x f z.toNatClampNeg (own_fi x z).toNatClampNeg tt), rfl, N84, Kj84, fj84_5, fj84_8, (by rw [hlen]; rfl), (own_ds_nodup hok hs x _ tt (Nat.le_of_lt htZ) htn), (own_ds_mem hok hs x _ tt (fun j e => by unfold own_q; rw [e]) ht0 htn), (by rw [hlen]; decide), (fun i hi => ⟨ed, ke, rf, fj84_7, by rw [hlen]; exact fj84_10, hel⟩)⟩ (by decide) (by decide)
      · have hlt : su + 1 ≤ tt := by
          rcases Nat.lt_or_eq_of_le hsu with q | q
          · exact q
          · exact absurd ((hof9 _ (hok.le _)).1.mpr (by rw [hiu, q]; exact ht0)) hc22
        refine own_st (fun _ k => XS.ifNo X85.here hx rfl (hb hby own_d7_22) rfl ((if0 _ _).trans (feq (mt (lw_eq _ _).mp hc22)).1) k) ?_
        refine own_st (fun _ k => XS.aloadN X85.here hx rfl (hb hby own_d7_25) rfl rfl k) ?_
        show own_Gl _ _ _ _ _ _ _ (T85.setTop (mkF m 26 #[.val (.ref a), .val (.int x), .val (.ref b1), .val (.int ix)] [(.ref a)]))
        obtain ⟨T87, X87, e87, st87⟩ := getF X85 hx hZ hown (host := "") (Or.inl (oW hw 15 rfl)) Via.refl e85 fj84_2 (g := (mkF m 26 #[.val (.ref a), .val (.int x), .val (.ref b1), .val (.int ix)] [(.ref a)])) rfl rfl (hb hby own_d7_26)
        refine own_st st87 ?_
        refine own_st (fun _ k => XS.iloadN X87.here hx rfl (hb hby own_d7_29) rfl k) ?_
        obtain ⟨cl88, Ar88, qq88, Ss88, Nn88, Hh88, Gg88⟩ := id fj84_4
        have hin88 : ¬ (ix < 0 ∨ cl88.slots.size ≤ (ix).toNatClampNeg) := inb_of Ss88 hix
        have hat88 : cl88.slots[(ix).toNatClampNeg]? = some (.int (hs (f ix.toNatClampNeg))) := Hh88.at hin88 (own_fl_get _ _ _ _ (own_natlt hix.1 hix.2))
        refine own_st (X87.iaload hx (j := ix) (v := (.int (hs (f ix.toNatClampNeg)))) (by rw [e87]; exact Ar88.1) (State.isArrayOf_alike hZ.alike Ar88.2.1) Ar88.2.2 hin88 hat88 (g := (mkF m 30 #[.val (.ref a), .val (.int x), .val (.ref b1), .val (.int ix)] [(.int ix), (.ref sb)])) rfl rfl (hb hby own_d7_30)) ?_
        refine own_st (fun _ k => XS.iloadN X87.here hx rfl (hb hby own_d7_31) rfl k) ?_
        show own_Gl _ _ _ _ _ _ _ (T87.setTop (mkF m 32 #[.val (.ref a), .val (.int x), .val (.ref b1), .val (.int ix)] [(.int x), (.int (hs (f ix.toNatClampNeg)))]))
        by_cases hc32 : (hs (f ix.toNatClampNeg)) = x
        · have hyn : hs (f (((own_fi x z).toNatClampNeg + su) % z.toNatClampNeg)) = x := by rw [← hiu]; exact hc32
          have hl1 := own_ds_len hok hs x (own_fi x z).toNatClampNeg (su + 1) (by omega) (fun u hu => htn u (by omega))
          rw [own_ds_yes _ _ _ _ _ _ hyn, List.length_append, hlen, List.length_singleton] at hl1
          refine own_st (fun _ k => XS.icmpNo X87.here hx rfl (hb hby own_d7_32) rfl (teq hc32).2 k) ?_
          refine own_st (fun _ k => XS.aloadN X87.here hx rfl (hb hby own_d7_35) rfl rfl k) ?_
          refine own_st (fun _ k => XS.aloadN X87.here hx rfl (hb hby own_d7_36) rfl rfl k) ?_
          obtain ⟨T89, X89, e89, st89⟩ := getF X87 hx hZ hown (host := "") (Or.inl (oW hw 12 rfl)) Via.refl e87 fj84_1 (g := (mkF m 37 #[.val (.ref a), .val (.int x), .val (.ref b1), .val (.int ix)] [(.ref a), (.ref b1)])) rfl rfl (hb hby own_d7_37)
          refine own_st st89 ?_
          show own_Gl _ _ _ _ _ _ _ (T89.setTop (mkF m 40 #[.val (.ref a), .val (.int x), .val (.ref b1), .val (.int ix)] [(.ref ob), (.ref b1)]))
          refine own_st (fun _ k => XS.iloadN X89.here hx rfl (hb hby own_d7_40) rfl k) ?_
          obtain ⟨cl90, Ar90, qq90, Ss90, Nn90, Hh90, Gg90⟩ := id fj84_3
          have hin90 : ¬ (ix < 0 ∨ cl90.slots.size ≤ (ix).toNatClampNeg) := inb_of Ss90 hix
          have hat90 : cl90.slots[(ix).toNatClampNeg]? = some (.long (ofs (f ix.toNatClampNeg))) := Hh90.at hin90 (own_fj_get _ _ _ _ (own_natlt hix.1 hix.2))
          refine own_st (X89.laload hx (j := ix) (v := (.long (ofs (f ix.toNatClampNeg)))) (by rw [e89]; exact Ar90.1) (State.isArrayOf_alike hZ.alike Ar90.2.1) Ar90.2.2 hin90 hat90 (g := (mkF m 41 #[.val (.ref a), .val (.int x), .val (.ref b1), .val (.int ix)] [(.int ix), (.ref ob), (.ref b1)])) rfl rfl (hb hby own_d7_41)) ?_
          obtain ⟨_, _, ⟨T91, L91, k91, n91⟩, -, X91, ⟨Lc91, hQ91, l91, y91, z91⟩, st91⟩ := Jvm.LawKit.callS X89 hx (y := oM8) hown (mvT hZ (oW hw 94 rfl)) (mvT hZ (oW hw 95 rfl)) (mvT hZ (oW hw 96 rfl)) (mvT hZ (oW hw 97 rfl)) (by decide) (backOf (W := 1) (own_valueOf l Z a0 hw [] (ofs (f ix.toNatClampNeg)) ca ccl h84 n0 Zs84 (S_cache.ext fj84_9.2) (hcaZ.ext fj84_9.2) hcs (fun j q1 q2 => (hcacheZ j q1 q2).imp fun r q => ⟨q.1, q.2.1.ext fj84_9.2, q.2.2.ext fj84_9.2⟩)) hZ (oW hw 97 rfl) (oW hw 96 rfl) (by decide) (by decide)) (g := (mkF m 42 #[.val (.ref a), .val (.int x), .val (.ref b1), .val (.int ix)] [(.long (ofs (f ix.toNatClampNeg))), (.ref b1)])) rfl (by rw [hml]; rfl) (argsL := [(.long (ofs (f ix.toNatClampNeg)))]) (rest := [(.ref b1)]) (lenOf own_pd940381112 rfl) rfl (by show 2 * 0 + _ ≤ _; exact Nat.le_of_eq rfl) (hb hby own_d7_42) (fun _ _ => ⟨rfl, e89, (by decide : 8 + 1 ≤ 11), (by decide : 19 + 1 ≤ 22)⟩)
          dsimp only [Pt.U, Pt.locs, Pt.cells, Pt.slots] at X91 l91 y91 z91 st91 hQ91
          subst l91 y91 z91
          obtain ⟨hh91, eh091⟩ : ∃ z, T91.heap = z := ⟨_, rfl⟩
          rw [eh091] at hQ91
          obtain ⟨r_91, rfl, Nq91, Kq91, P91_0, P91_1⟩ := hQ91
          have N91 := Fr.app N84 Nq91
          refine own_st st91 ?_
          have Zs92 : n0 ≤ hh91.size := Nat.le_trans Zs84 Kq91.1
          have f93 := (fj84_5.keep Kq91)
          have ne_r_li : r_91 ≠ b1 := own_exne P91_0 f93 (by decide)
          have f94 := (fj84_10.keep Kq91 nin0)
          have ne_r_ed : r_91 ≠ ed := Exa.neArv P91_0 f94 (oW hw 101 rfl)
          have hel0 := own_He_keep hel Kq91 (fun _ _ => nin0)
          have f96 := (fj84_6.keep Kq91 nin0)
          have f97 := (fj84_7.keep Kq91 nin0)
          have f98 := (fj84_8.keep Kq91 nin0)
          have f99 := (fj84_0.keep Kq91)
          have f100 := (fj84_3.keep Kq91 nin0)
          have f101 := (fj84_4.keep Kq91 nin0)
          obtain ⟨cq95, kq95, q95a, q95b, q95c⟩ := isOf hZ eh091 f93
          obtain ⟨_, _, ⟨T95, L95, k95, n95⟩, -, X95, ⟨Lc95, hQ95, l95, y95, z95⟩, st95⟩ := X91.interfaceBack hx (xi := oM18) (y := oM16) hown (mvT hZ (oW hw 115 rfl)) (mvT hZ (oW hw 116 rfl)) (mvT hZ (oW hw 117 rfl)) (mvT hZ (oW hw 118 rfl)) (mvT hZ (oW hw 119 rfl)) (mvT hZ (oW hw 120 rfl)) (mvT hZ (oW hw 121 rfl)) (mvT hZ (oW hw 76 rfl)) (by decide) (backOf (W := 0) (own_add1m l Z a0 hw [] b1 r_91 ed ke mc (6 : Int32) 6 rf hh91 n0 Zs92 f93 f96 f97 f98 g_b1 g_ed (Ne.symm ne_ed_li) P91_0 f94 hov rfl (by decide)) hZ (oW hw 122 rfl) (oW hw 44 rfl) (by decide) (by decide)) q95a q95b q95c (g := (mkF m 45 #[.val (.ref a), .val (.int x), .val (.ref b1), .val (.int ix)] [(.ref r_91), (.ref b1)])) rfl (by rw [hml]; rfl) (Steps.refl _) (argsL := [(.ref r_91)]) (rest := []) (lenOf own_pd963338152 rfl) rfl (by show 2 * 0 + _ ≤ _; exact Nat.le_of_eq rfl) (hb hby own_d7_45) (fun _ _ => ⟨rfl, eh091, (by decide : 9 + 0 ≤ 11), (by decide : 20 + 0 ≤ 22)⟩)
          dsimp only [Pt.U, Pt.locs, Pt.cells, Pt.slots] at X95 l95 y95 z95 st95 hQ95
          subst l95 y95 z95
          obtain ⟨hh95, eh095⟩ : ∃ z, T95.heap = z := ⟨_, rfl⟩
          rw [eh095] at hQ95
          obtain ⟨rfl, Nq95, Kq95, P95_0, P95_1, P95_2, P95_3⟩ := hQ95
          have N95 := Fr.app N91 Nq95
          refine own_tr st95 ?_
          have Zs102 : n0 ≤ hh95.size := Nat.le_trans Zs92 Kq95.1
          have f103 := (P91_0.keep Kq95)
          have f104 := (P91_1.keep Kq95 (ninS ne_r_li (ninS ne_r_ed nin0)))
          have hel1 := own_He_keep hel0 Kq95 (fun i hi => ninS (own_exne (hel0 i hi).1 f93 (by decide)) (ninS (Exa.neArv (hel0 i hi).1 f94 (oW hw 101 rfl)) nin0))
          have hel2 := own_He_add hel1 hlen f103 f104
          rw [hiu] at hel2
          show own_Gl _ _ _ _ _ _ _ (T95.setTop (mkF m 50 #[.val (.ref a), .val (.int x), .val (.ref b1), .val (.int ix)] [(.int 1)]))
          refine own_st (fun _ k => XS.pop X95.here hx rfl (hb hby own_d7_50) rfl rfl k) ?_
          refine own_st (fun _ k => XS.aloadN X95.here hx rfl (hb hby own_d7_51) rfl rfl k) ?_
          refine own_st (fun _ k => XS.iloadN X95.here hx rfl (hb hby own_d7_52) rfl k) ?_
          have f106 := ((fj84_1.keep Kq91 nin0).keep Kq95 (ninS ne_a_b1 (ninS (Ne.symm ne_ed_a) nin0)))
          have f107 := (f100.keep Kq95 (ninS ne_ob_b1 (ninS (Ne.symm ne_ed_ob) nin0)))
          have f108 := (f99.keep Kq95)
          have f109 := (f101.keep Kq95 (ninS ne_sb_b1 (ninS (Ne.symm ne_ed_sb) nin0)))
          have f110 := (f93.keep Kq95)
          obtain ⟨cq105, q105, qq105⟩ := f108.cell
          obtain ⟨_, _, ⟨T105, L105, k105, n105⟩, -, X105, ⟨Lc105, hQ105, l105, y105, z105⟩, st105⟩ := X95.privateBack hx (y := oM2) hown (mvT hZ (oW hw 84 rfl)) (mvT hZ (oW hw 85 rfl)) (own_selpriv hZ (oW hw 3 rfl) (oW hw 86 rfl) (oW hw 85 rfl) (by decide)) (Cond.privateMethod_at (mvP hZ (oW hw 86 rfl) (args := #[]))) (mvT hZ (oW hw 87 rfl)) (by decide) (backOf (W := 0) (own_next l Z a0 hw [] a ix ob ko z (own_fj z.toNatClampNeg (fun p => ofs (f p))) hh95 n0 Zs102 f106 f107 hz) hZ (oW hw 87 rfl) (oW hw 4 rfl) (by decide) (by decide)) (g := (mkF m 53 #[.val (.ref a), .val (.int x), .val (.ref b1), .val (.int ix)] [(.int ix), (.ref a)])) rfl (by rw [hml]; rfl) (Steps.refl _) (a := a) (by rw [eh095]; exact q105) qq105 (argsL := [(.int ix)]) (rest := []) (lenOf own_pd91181837 rfl) rfl (by show 2 * 0 + _ ≤ _; exact Nat.le_of_eq rfl) (hb hby own_d7_53) (fun _ _ => ⟨rfl, eh095, (by decide : 9 + 0 ≤ 11), (by decide : 20 + 0 ≤ 22)⟩)
          dsimp only [Pt.U, Pt.locs, Pt.cells, Pt.slots] at X105 l105 y105 z105 st105 hQ105
          subst l105 y105 z105
          obtain ⟨hh105, eh0105⟩ : ∃ z, T105.heap = z := ⟨_, rfl⟩
          rw [eh0105] at hQ105
          obtain ⟨rfl, Nq105, eh105⟩ := hQ105
          have N105 := Fr.app N95 Nq105
          refine own_tr st105 ?_
          have e105 : T105.heap = hh95 := eh0105.trans eh105
          show own_Gl _ _ _ _ _ _ _ (T105.setTop (mkF m 56 #[.val (.ref a), .val (.int x), .val (.ref b1), .val (.int ix)] [(.int (own_nxt ix z))]))
          refine own_st (fun _ k => XS.istoreN X105.here hx rfl (hb hby own_d7_56) rfl (l' := #[.val (.ref a), .val (.int x), .val (.ref b1), .val (.int (own_nxt ix z))]) rfl k) ?_
          refine own_st (fun _ k => XS.goto X105.here hx rfl (pc0 := 57) (pc' := 14) rfl (hb hby own_d7_57) (by decide) (by decide) k) ?_
          have K111 : Keep h0 hh95 [] := ((Kj84.trans Kq91 all0).trans Kq95 (allS (Or.inr gh_b1) (allS (Or.inr gh_ed) all0)))
          have f112 := ((fj84_2.keep Kq91 nin0).keep Kq95 (ninS ne_a_b1 (ninS (Ne.symm ne_ed_a) nin0)))
          have f113 := ((fj84_9.keep Kq91 all0).keep Kq95 (allS g_b1 (allS g_ed all0)))
          show own_Gl _ _ _ _ _ _ _ (T105.setTop (mkF m 14 #[.val (.ref a), .val (.int x), .val (.ref b1), .val (.int (own_nxt ix z))] []))
          exact J14_53 _ T105 _ N105 X105 _ e105 ((su + 1)) ((own_nxt ix z)) ((mc + (1 : Int32))) (ed) (ke) ((fun i => if i = 6 then r_91 else rf i)) Zs102 K111 f108 f106 f112 f107 f109 f110 P95_0 P95_1 P95_2 f113 P95_3 (own_nxt_in ix z hz hix).1 (by rw [(own_nxt_in ix z hz hix).2, hiu, Nat.mod_add_mod, Nat.add_assoc]) hlt (by rw [own_ds_yes _ _ _ _ _ _ hyn, List.length_append, hlen]; rfl) g_ed gh_ed ne_ed_li ne_ed_a ne_ed_ob ne_ed_sb hov (by rw [own_ds_yes _ _ _ _ _ _ hyn]; exact hel2) rfl
        · have hyn : ¬ hs (f (((own_fi x z).toNatClampNeg + su) % z.toNatClampNeg)) = x := by rw [← hiu]; exact hc32
          refine own_st (fun _ k => XS.icmpYes X87.here hx rfl (pc0 := 32) (pc' := 51) rfl (hb hby own_d7_32) rfl (feq hc32).2 (by decide) (by decide) k) ?_
          refine own_st (fun _ k => XS.aloadN X87.here hx rfl (hb hby own_d7_51) rfl rfl k) ?_
          refine own_st (fun _ k => XS.iloadN X87.here hx rfl (hb hby own_d7_52) rfl k) ?_
          obtain ⟨cq114, q114, qq114⟩ := fj84_0.cell
          obtain ⟨_, _, ⟨T114, L114, k114, n114⟩, -, X114, ⟨Lc114, hQ114, l114, y114, z114⟩, st114⟩ := X87.privateBack hx (y := oM2) hown (mvT hZ (oW hw 84 rfl)) (mvT hZ (oW hw 85 rfl)) (own_selpriv hZ (oW hw 3 rfl) (oW hw 86 rfl) (oW hw 85 rfl) (by decide)) (Cond.privateMethod_at (mvP hZ (oW hw 86 rfl) (args := #[]))) (mvT hZ (oW hw 87 rfl)) (by decide) (backOf (W := 0) (own_next l Z a0 hw [] a ix ob ko z (own_fj z.toNatClampNeg (fun p => ofs (f p))) h84 n0 Zs84 fj84_1 fj84_3 hz) hZ (oW hw 87 rfl) (oW hw 4 rfl) (by decide) (by decide)) (g := (mkF m 53 #[.val (.ref a), .val (.int x), .val (.ref b1), .val (.int ix)] [(.int ix), (.ref a)])) rfl (by rw [hml]; rfl) (Steps.refl _) (a := a) (by rw [e87]; exact q114) qq114 (argsL := [(.int ix)]) (rest := []) (lenOf own_pd91181837 rfl) rfl (by show 2 * 0 + _ ≤ _; exact Nat.le_of_eq rfl) (hb hby own_d7_53) (fun _ _ => ⟨rfl, e87, (by decide : 8 + 0 ≤ 11), (by decide : 19 + 0 ≤ 22)⟩)
          dsimp only [Pt.U, Pt.locs, Pt.cells, Pt.slots] at X114 l114 y114 z114 st114 hQ114
          subst l114 y114 z114
          obtain ⟨hh114, eh0114⟩ : ∃ z, T114.heap = z := ⟨_, rfl⟩
          rw [eh0114] at hQ114
          obtain ⟨rfl, Nq114, eh114⟩ := hQ114
          have N114 := Fr.app N84 Nq114
          refine own_tr st114 ?_
          have e114 : T114.heap = h84 := eh0114.trans eh114
          show own_Gl _ _ _ _ _ _ _ (T114.setTop (mkF m 56 #[.val (.ref a), .val (.int x), .val (.ref b1), .val (.int ix)] [(.int (own_nxt ix z))]))
          refine own_st (fun _ k => XS.istoreN X114.here hx rfl (hb hby own_d7_56) rfl (l' := #[.val (.ref a), .val (.int x), .val (.ref b1), .val (.int (own_nxt ix z))]) rfl k) ?_
          refine own_st (fun _ k => XS.goto X114.here hx rfl (pc0 := 57) (pc' := 14) rfl (hb hby own_d7_57) (by decide) (by decide) k) ?_
          show own_Gl _ _ _ _ _ _ _ (T114.setTop (mkF m 14 #[.val (.ref a), .val (.int x), .val (.ref b1), .val (.int (own_nxt ix z))] []))
          exact ih84 _ (by omega) T114 _ N114 X114 _ e114 ((su + 1)) ((own_nxt ix z)) (mc) (ed) (ke) (rf) Zs84 Kj84 fj84_0 fj84_1 fj84_2 fj84_3 fj84_4 fj84_5 fj84_6 fj84_7 fj84_8 fj84_9 fj84_10 (own_nxt_in ix z hz hix).1 (by rw [(own_nxt_in ix z hz hix).2, hiu, Nat.mod_add_mod, Nat.add_assoc]) hlt (by rw [own_ds_no _ _ _ _ _ _ hyn]; exact hlen) g_ed gh_ed ne_ed_li ne_ed_a ne_ed_ob ne_ed_sb hov (by rw [own_ds_no _ _ _ _ _ _ hyn]; exact hel) rfl
  have J14_115 : ∀ (k115 : Nat) (T115 : State) (LL115 : List Loc) (N115 : Fr n0 LL115) (X115 : Stand p l e ⟨5, 11, 22, 69⟩ s m #[(.ref a), (.int x)] below meth c T115 LL115 7 18) (h115 : Heap) (e115 : T115.heap = h115) (su : Nat) (ix : Int32) (mc : Int32) (ed : Addr) (ke : ClassId) (rf : Nat → Addr) (Zs115 : n0 ≤ h115.size) (Kj115 : Keep h0 h115 []) (fj115_0 : Exa Z h115 a "com/example/assayline/assayline/core/MessageIndex") (fj115_1 : Fld Z h115 a "com/example/assayline/assayline/core/MessageIndex" "offsets" "[J" (.ref ob)) (fj115_2 : Fld Z h115 a "com/example/assayline/assayline/core/MessageIndex" "hashes" "[I" (.ref sb)) (fj115_3 : Arv Z h115 ob ko .long z (own_fj z.toNatClampNeg (fun p => ofs (f p))) (.long (0 : Int64))) (fj115_4 : Arv Z h115 sb kh .int z (own_fl z.toNatClampNeg (fun p => hs (f p))) (.int 0)) (fj115_5 : Exa Z h115 b1 "java/util/ArrayList") (fj115_6 : Fld Z h115 b1 "java/util/AbstractList" "modCount" "I" (.int mc)) (fj115_7 : Fld Z h115 b1 "java/util/ArrayList" "elementData" "[Ljava/lang/Object;" (.ref ed)) (fj115_8 : Fld Z h115 b1 "java/util/ArrayList" "size" "I" (.int 5)) (fj115_9 : Old Z n0 h115) (fj115_10 : Arv Z h115 ed ke (.object "java/lang/Object") (10 : Int32) (own_rl 5 rf) .null) (hix : ¬ ix < 0 ∧ ix < z) (hiu : ix.toNatClampNeg = ((own_fi x z).toNatClampNeg + su) % z.toNatClampNeg) (hsu : su ≤ tt) (hlen : (own_ds hs x f z.toNatClampNeg (own_fi x z).toNatClampNeg su).length = 5) (g_ed : n0 ≤ ed) (gh_ed : h0.size ≤ ed) (ne_ed_li : ed ≠ b1) (ne_ed_a : ed ≠ a) (ne_ed_ob : ed ≠ ob) (ne_ed_sb : ed ≠ sb) (hov : Ovr Z ke "java/lang/Object") (hel : own_He Z h115 ofs (own_ds hs x f z.toNatClampNeg (own_fi x z).toNatClampNeg su) rf) (hk115 : tt - su = k115), own_Gl p e below s (own_Q_own_off Z a x ob sb ko kh z f ofs hs SS cn de kd ca ccl h0 n0) 11 22 (T115.setTop (mkF m 14 #[.val (.ref a), .val (.int x), .val (.ref b1), .val (.int ix)] [])) := by
    intro k115
    induction k115 using Nat.strongRecOn with
    | _ k115 ih115 =>
      intro T115 LL115 N115 X115 h115 e115 su ix mc ed ke rf Zs115 Kj115 fj115_0 fj115_1 fj115_2 fj115_3 fj115_4 fj115_5 fj115_6 fj115_7 fj115_8 fj115_9 fj115_10 hix hiu hsu hlen g_ed gh_ed ne_ed_li ne_ed_a ne_ed_ob ne_ed_sb hov hel hk115
      show own_Gl _ _ _ _ _ _ _ (T115.setTop (mkF m 14 #[.val (.ref a), .val (.int x), .val (.ref b1), .val (.int ix)] []))
      refine own_st (fun _ k => XS.aloadN X115.here hx rfl (hb hby own_d7_14) rfl rfl k) ?_
      obtain ⟨T116, X116, e116, st116⟩ := getF X115 hx hZ hown (host := "") (Or.inl (oW hw 12 rfl)) Via.refl e115 fj115_1 (g := (mkF m 15 #[.val (.ref a), .val (.int x), .val (.ref b1), .val (.int ix)] [(.ref a)])) rfl rfl (hb hby own_d7_15)
      refine own_st st116 ?_
      refine own_st (fun _ k => XS.iloadN X116.here hx rfl (hb hby own_d7_18) rfl k) ?_
      obtain ⟨cl117, Ar117, qq117, Ss117, Nn117, Hh117, Gg117⟩ := id fj115_3
      have hin117 : ¬ (ix < 0 ∨ cl117.slots.size ≤ (ix).toNatClampNeg) := inb_of Ss117 hix
      have hat117 : cl117.slots[(ix).toNatClampNeg]? = some (.long (ofs (f ix.toNatClampNeg))) := Hh117.at hin117 (own_fj_get _ _ _ _ (own_natlt hix.1 hix.2))
      refine own_st (X116.laload hx (j := ix) (v := (.long (ofs (f ix.toNatClampNeg)))) (by rw [e116]; exact Ar117.1) (State.isArrayOf_alike hZ.alike Ar117.2.1) Ar117.2.2 hin117 hat117 (g := (mkF m 19 #[.val (.ref a), .val (.int x), .val (.ref b1), .val (.int ix)] [(.int ix), (.ref ob)])) rfl rfl (hb hby own_d7_19)) ?_
      show own_Gl _ _ _ _ _ _ _ (T116.setTop (mkF m 20 #[.val (.ref a), .val (.int x), .val (.ref b1), .val (.int ix)] [(.long (ofs (f ix.toNatClampNeg)))]))
      refine own_st (fun _ k => XS.lconst X116.here hx rfl (hb hby own_d7_20) k) ?_
      refine own_st (fun _ k => XS.lcmp X116.here hx rfl (hb hby own_d7_21) rfl k) ?_
      by_cases hc22 : (ofs (f ix.toNatClampNeg)) = (0 : Int64)
      · have hst : su = tt := by
          rcases Nat.lt_or_eq_of_le hsu with q | q
          · exact absurd ((hof9 _ (hok.le _)).1.mp hc22) (by rw [hiu]; exact htn su q)
          · exact q
        rw [hst] at hlen
        rw [hst] at hel
        refine own_st (fun _ k => XS.ifYes X116.here hx rfl (pc0 := 22) (pc' := 60) rfl (hb hby own_d7_22) rfl ((if0 _ _).trans (teq ((lw_eq _ _).mpr hc22)).1) (by decide) (by decide) k) ?_
        refine own_st (fun _ k => XS.aloadN X116.here hx rfl (hb hby own_d7_60) rfl rfl k) ?_
        show own_Gl _ _ _ _ _ _ _ (T116.setTop (mkF m 61 #[.val (.ref a), .val (.int x), .val (.ref b1), .val (.int ix)] [(.ref b1)]))
        exact own_retA X116 hx hlk hret rfl rfl rfl (hb hby own_d7_61) e116 ⟨b1, (5 : Int32), (own_ds hs x f z.toNatClampNeg (own_fi x z).toNatClampNeg tt), rfl, N115, Kj115, fj115_5, fj115_8, (by rw [hlen]; rfl), (own_ds_nodup hok hs x _ tt (Nat.le_of_lt htZ) htn), (own_ds_mem hok hs x _ tt (fun j e => by unfold own_q; rw [e]) ht0 htn), (by rw [hlen]; decide), (fun i hi => ⟨ed, ke, rf, fj115_7, by rw [hlen]; exact fj115_10, hel⟩)⟩ (by decide) (by decide)
      · have hlt : su + 1 ≤ tt := by
          rcases Nat.lt_or_eq_of_le hsu with q | q
          · exact q
          · exact absurd ((hof9 _ (hok.le _)).1.mpr (by rw [hiu, q]; exact ht0)) hc22
        refine own_st (fun _ k => XS.ifNo X116.here hx rfl (hb hby own_d7_22) rfl ((if0 _ _).trans (feq (mt (lw_eq _ _).mp hc22)).1) k) ?_
        refine own_st (fun _ k => XS.aloadN X116.here hx rfl (hb hby own_d7_25) rfl rfl k) ?_
        show own_Gl _ _ _ _ _ _ _ (T116.setTop (mkF m 26 #[.val (.ref a), .val (.int x), .val (.ref b1), .val (.int ix)] [(.ref a)]))
        obtain ⟨T118, X118, e118, st118⟩ := getF X116 hx hZ hown (host := "") (Or.inl (oW hw 15 rfl)) Via.refl e116 fj115_2 (g := (mkF m 26 #[.val (.ref a), .val (.int x), .val (.ref b1), .val (.int ix)] [(.ref a)])) rfl rfl (hb hby own_d7_26)
        refine own_st st118 ?_
        refine own_st (fun _ k => XS.iloadN X118.here hx rfl (hb hby own_d7_29) rfl k) ?_
        obtain ⟨cl119, Ar119, qq119, Ss119, Nn119, Hh119, Gg119⟩ := id fj115_4
        have hin119 : ¬ (ix < 0 ∨ cl119.slots.size ≤ (ix).toNatClampNeg) := inb_of Ss119 hix
        have hat119 : cl119.slots[(ix).toNatClampNeg]? = some (.int (hs (f ix.toNatClampNeg))) := Hh119.at hin119 (own_fl_get _ _ _ _ (own_natlt hix.1 hix.2))
        refine own_st (X118.iaload hx (j := ix) (v := (.int (hs (f ix.toNatClampNeg)))) (by rw [e118]; exact Ar119.1) (State.isArrayOf_alike hZ.alike Ar119.2.1) Ar119.2.2 hin119 hat119 (g := (mkF m 30 #[.val (.ref a), .val (.int x), .val (.ref b1), .val (.int ix)] [(.int ix), (.ref sb)])) rfl rfl (hb hby own_d7_30)) ?_
        refine own_st (fun _ k => XS.iloadN X118.here hx rfl (hb hby own_d7_31) rfl k) ?_
        show own_Gl _ _ _ _ _ _ _ (T118.setTop (mkF m 32 #[.val (.ref a), .val (.int x), .val (.ref b1), .val (.int ix)] [(.int x), (.int (hs (f ix.toNatClampNeg)))]))
        by_cases hc32 : (hs (f ix.toNatClampNeg)) = x
        · have hyn : hs (f (((own_fi x z).toNatClampNeg + su) % z.toNatClampNeg)) = x := by rw [← hiu]; exact hc32
          have hl1 := own_ds_len hok hs x (own_fi x z).toNatClampNeg (su + 1) (by omega) (fun u hu => htn u (by omega))
          rw [own_ds_yes _ _ _ _ _ _ hyn, List.length_append, hlen, List.length_singleton] at hl1
          refine own_st (fun _ k => XS.icmpNo X118.here hx rfl (hb hby own_d7_32) rfl (teq hc32).2 k) ?_
          refine own_st (fun _ k => XS.aloadN X118.here hx rfl (hb hby own_d7_35) rfl rfl k) ?_
          refine own_st (fun _ k => XS.aloadN X118.here hx rfl (hb hby own_d7_36) rfl rfl k) ?_
          obtain ⟨T120, X120, e120, st120⟩ := getF X118 hx hZ hown (host := "") (Or.inl (oW hw 12 rfl)) Via.refl e118 fj115_1 (g := (mkF m 37 #[.val (.ref a), .val (.int x), .val (.ref b1), .val (.int ix)] [(.ref a), (.ref b1)])) rfl rfl (hb hby own_d7_37)
          refine own_st st120 ?_
          show own_Gl _ _ _ _ _ _ _ (T120.setTop (mkF m 40 #[.val (.ref a), .val (.int x), .val (.ref b1), .val (.int ix)] [(.ref ob), (.ref b1)]))
          refine own_st (fun _ k => XS.iloadN X120.here hx rfl (hb hby own_d7_40) rfl k) ?_
          obtain ⟨cl121, Ar121, qq121, Ss121, Nn121, Hh121, Gg121⟩ := id fj115_3
          have hin121 : ¬ (ix < 0 ∨ cl121.slots.size ≤ (ix).toNatClampNeg) := inb_of Ss121 hix
          have hat121 : cl121.slots[(ix).toNatClampNeg]? = some (.long (ofs (f ix.toNatClampNeg))) := Hh121.at hin121 (own_fj_get _ _ _ _ (own_natlt hix.1 hix.2))
          refine own_st (X120.laload hx (j := ix) (v := (.long (ofs (f ix.toNatClampNeg)))) (by rw [e120]; exact Ar121.1) (State.isArrayOf_alike hZ.alike Ar121.2.1) Ar121.2.2 hin121 hat121 (g := (mkF m 41 #[.val (.ref a), .val (.int x), .val (.ref b1), .val (.int ix)] [(.int ix), (.ref ob), (.ref b1)])) rfl rfl (hb hby own_d7_41)) ?_
          obtain ⟨_, _, ⟨T122, L122, k122, n122⟩, -, X122, ⟨Lc122, hQ122, l122, y122, z122⟩, st122⟩ := Jvm.LawKit.callS X120 hx (y := oM8) hown (mvT hZ (oW hw 94 rfl)) (mvT hZ (oW hw 95 rfl)) (mvT hZ (oW hw 96 rfl)) (mvT hZ (oW hw 97 rfl)) (by decide) (backOf (W := 1) (own_valueOf l Z a0 hw [] (ofs (f ix.toNatClampNeg)) ca ccl h115 n0 Zs115 (S_cache.ext fj115_9.2) (hcaZ.ext fj115_9.2) hcs (fun j q1 q2 => (hcacheZ j q1 q2).imp fun r q => ⟨q.1, q.2.1.ext fj115_9.2, q.2.2.ext fj115_9.2⟩)) hZ (oW hw 97 rfl) (oW hw 96 rfl) (by decide) (by decide)) (g := (mkF m 42 #[.val (.ref a), .val (.int x), .val (.ref b1), .val (.int ix)] [(.long (ofs (f ix.toNatClampNeg))), (.ref b1)])) rfl (by rw [hml]; rfl) (argsL := [(.long (ofs (f ix.toNatClampNeg)))]) (rest := [(.ref b1)]) (lenOf own_pd940381112 rfl) rfl (by show 2 * 0 + _ ≤ _; exact Nat.le_of_eq rfl) (hb hby own_d7_42) (fun _ _ => ⟨rfl, e120, (by decide : 7 + 1 ≤ 11), (by decide : 18 + 1 ≤ 22)⟩)
          dsimp only [Pt.U, Pt.locs, Pt.cells, Pt.slots] at X122 l122 y122 z122 st122 hQ122
          subst l122 y122 z122
          obtain ⟨hh122, eh0122⟩ : ∃ z, T122.heap = z := ⟨_, rfl⟩
          rw [eh0122] at hQ122
          obtain ⟨r_122, rfl, Nq122, Kq122, P122_0, P122_1⟩ := hQ122
          have N122 := Fr.app N115 Nq122
          refine own_st st122 ?_
          have Zs123 : n0 ≤ hh122.size := Nat.le_trans Zs115 Kq122.1
          have f124 := (fj115_5.keep Kq122)
          have ne_r_li : r_122 ≠ b1 := own_exne P122_0 f124 (by decide)
          have f125 := (fj115_10.keep Kq122 nin0)
          have ne_r_ed : r_122 ≠ ed := Exa.neArv P122_0 f125 (oW hw 101 rfl)
          have hel0 := own_He_keep hel Kq122 (fun _ _ => nin0)
          have f127 := (fj115_6.keep Kq122 nin0)
          have f128 := (fj115_7.keep Kq122 nin0)
          have f129 := (fj115_8.keep Kq122 nin0)
          have f130 := (fj115_0.keep Kq122)
          have f131 := (fj115_3.keep Kq122 nin0)
          have f132 := (fj115_4.keep Kq122 nin0)
          obtain ⟨cq126, kq126, q126a, q126b, q126c⟩ := isOf hZ eh0122 f124
          obtain ⟨_, _, ⟨T126, L126, k126, n126⟩, -, X126, ⟨Lc126, hQ126, l126, y126, z126⟩, st126⟩ := X122.interfaceBack hx (xi := oM18) (y := oM16) hown (mvT hZ (oW hw 115 rfl)) (mvT hZ (oW hw 116 rfl)) (mvT hZ (oW hw 117 rfl)) (mvT hZ (oW hw 118 rfl)) (mvT hZ (oW hw 119 rfl)) (mvT hZ (oW hw 120 rfl)) (mvT hZ (oW hw 121 rfl)) (mvT hZ (oW hw 76 rfl)) (by decide) (backOf (W := 0) (own_add1m l Z a0 hw [] b1 r_122 ed ke mc (5 : Int32) 5 rf hh122 n0 Zs123 f124 f127 f128 f129 g_b1 g_ed (Ne.symm ne_ed_li) P122_0 f125 hov rfl (by decide)) hZ (oW hw 122 rfl) (oW hw 44 rfl) (by decide) (by decide)) q126a q126b q126c (g := (mkF m 45 #[.val (.ref a), .val (.int x), .val (.ref b1), .val (.int ix)] [(.ref r_122), (.ref b1)])) rfl (by rw [hml]; rfl) (Steps.refl _) (argsL := [(.ref r_122)]) (rest := []) (lenOf own_pd963338152 rfl) rfl (by show 2 * 0 + _ ≤ _; exact Nat.le_of_eq rfl) (hb hby own_d7_45) (fun _ _ => ⟨rfl, eh0122, (by decide : 8 + 0 ≤ 11), (by decide : 19 + 0 ≤ 22)⟩)
          dsimp only [Pt.U, Pt.locs, Pt.cells, Pt.slots] at X126 l126 y126 z126 st126 hQ126
          subst l126 y126 z126
          obtain ⟨hh126, eh0126⟩ : ∃ z, T126.heap = z := ⟨_, rfl⟩
          rw [eh0126] at hQ126
          obtain ⟨rfl, Nq126, Kq126, P126_0, P126_1, P126_2, P126_3⟩ := hQ126
          have N126 := Fr.app N122 Nq126
          refine own_tr st126 ?_
          have Zs133 : n0 ≤ hh126.size := Nat.le_trans Zs123 Kq126.1
          have f134 := (P122_0.keep Kq126)
          have f135 := (P122_1.keep Kq126 (ninS ne_r_li (ninS ne_r_ed nin0)))
          have hel1 := own_He_keep hel0 Kq126 (fun i hi => ninS (own_exne (hel0 i hi).1 f124 (by decide)) (ninS (Exa.neArv (hel0 i hi).1 f125 (oW hw 101 rfl)) nin0))
          have hel2 := own_He_add hel1 hlen f134 f135
          rw [hiu] at hel2
          show own_Gl _ _ _ _ _ _ _ (T126.setTop (mkF m 50 #[.val (.ref a), .val (.int x), .val (.ref b1), .val (.int ix)] [(.int 1)]))
          refine own_st (fun _ k => XS.pop X126.here hx rfl (hb hby own_d7_50) rfl rfl k) ?_
          refine own_st (fun _ k => XS.aloadN X126.here hx rfl (hb hby own_d7_51) rfl rfl k) ?_
          refine own_st (fun _ k => XS.iloadN X126.here hx rfl (hb hby own_d7_52) rfl k) ?_
          have f137 := ((fj115_1.keep Kq122 nin0).keep Kq126 (ninS ne_a_b1 (ninS (Ne.symm ne_ed_a) nin0)))
          have f138 := (f131.keep Kq126 (ninS ne_ob_b1 (ninS (Ne.symm ne_ed_ob) nin0)))
          have f139 := (f130.keep Kq126)
          have f140 := (f132.keep Kq126 (ninS ne_sb_b1 (ninS (Ne.symm ne_ed_sb) nin0)))
          have f141 := (f124.keep Kq126)
          obtain ⟨cq136, q136, qq136⟩ := f139.cell
          obtain ⟨_, _, ⟨T136, L136, k136, n136⟩, -, X136, ⟨Lc136, hQ136, l136, y136, z136⟩, st136⟩ := X126.privateBack hx (y := oM2) hown (mvT hZ (oW hw 84 rfl)) (mvT hZ (oW hw 85 rfl)) (own_selpriv hZ (oW hw 3 rfl) (oW hw 86 rfl) (oW hw 85 rfl) (by decide)) (Cond.privateMethod_at (mvP hZ (oW hw 86 rfl) (args := #[]))) (mvT hZ (oW hw 87 rfl)) (by decide) (backOf (W := 0) (own_next l Z a0 hw [] a ix ob ko z (own_fj z.toNatClampNeg (fun p => ofs (f p))) hh126 n0 Zs133 f137 f138 hz) hZ (oW hw 87 rfl) (oW hw 4 rfl) (by decide) (by decide)) (g := (mkF m 53 #[.val (.ref a), .val (.int x), .val (.ref b1), .val (.int ix)] [(.int ix), (.ref a)])) rfl (by rw [hml]; rfl) (Steps.refl _) (a := a) (by rw [eh0126]; exact q136) qq136 (argsL := [(.int ix)]) (rest := []) (lenOf own_pd91181837 rfl) rfl (by show 2 * 0 + _ ≤ _; exact Nat.le_of_eq rfl) (hb hby own_d7_53) (fun _ _ => ⟨rfl, eh0126, (by decide : 8 + 0 ≤ 11), (by decide : 19 + 0 ≤ 22)⟩)
          dsimp only [Pt.U, Pt.locs, Pt.cells, Pt.slots] at X136 l136 y136 z136 st136 hQ136
          subst l136 y136 z136
          obtain ⟨hh136, eh0136⟩ : ∃ z, T136.heap = z := ⟨_, rfl⟩
          rw [eh0136] at hQ136
          obtain ⟨rfl, Nq136, eh136⟩ := hQ136
          have N136 := Fr.app N126 Nq136
          refine own_tr st136 ?_
          have e136 : T136.heap = hh126 := eh0136.trans eh136
          show own_Gl _ _ _ _ _ _ _ (T136.setTop (mkF m 56 #[.val (.ref a), .val (.int x), .val (.ref b1), .val (.int ix)] [(.int (own_nxt ix z))]))
          refine own_st (fun _ k => XS.istoreN X136.here hx rfl (hb hby own_d7_56) rfl (l' := #[.val (.ref a), .val (.int x), .val (.ref b1), .val (.int (own_nxt ix z))]) rfl k) ?_
          refine own_st (fun _ k => XS.goto X136.here hx rfl (pc0 := 57) (pc' := 14) rfl (hb hby own_d7_57) (by decide) (by decide) k) ?_
          have K142 : Keep h0 hh126 [] := ((Kj115.trans Kq122 all0).trans Kq126 (allS (Or.inr gh_b1) (allS (Or.inr gh_ed) all0)))
          have f143 := ((fj115_2.keep Kq122 nin0).keep Kq126 (ninS ne_a_b1 (ninS (Ne.symm ne_ed_a) nin0)))
          have f144 := ((fj115_9.keep Kq122 all0).keep Kq126 (allS g_b1 (allS g_ed all0)))
          show own_Gl _ _ _ _ _ _ _ (T136.setTop (mkF m 14 #[.val (.ref a), .val (.int x), .val (.ref b1), .val (.int (own_nxt ix z))] []))
          exact J14_84 _ T136 _ N136 X136 _ e136 ((su + 1)) ((own_nxt ix z)) ((mc + (1 : Int32))) (ed) (ke) ((fun i => if i = 5 then r_122 else rf i)) Zs133 K142 f139 f137 f143 f138 f140 f141 P126_0 P126_1 P126_2 f144 P126_3 (own_nxt_in ix z hz hix).1 (by rw [(own_nxt_in ix z hz hix).2, hiu, Nat.mod_add_mod, Nat.add_assoc]) hlt (by rw [own_ds_yes _ _ _ _ _ _ hyn, List.length_append, hlen]; rfl) g_ed gh_ed ne_ed_li ne_ed_a ne_ed_ob ne_ed_sb hov (by rw [own_ds_yes _ _ _ _ _ _ hyn]; exact hel2) rfl
        · have hyn : ¬ hs (f (((own_fi x z).toNatClampNeg + su) % z.toNatClampNeg)) = x := by rw [← hiu]; exact hc32
          refine own_st (fun _ k => XS.icmpYes X118.here hx rfl (pc0 := 32) (pc' := 51) rfl (hb hby own_d7_32) rfl (feq hc32).2 (by decide) (by decide) k) ?_
          refine own_st (fun _ k => XS.aloadN X118.here hx rfl (hb hby own_d7_51) rfl rfl k) ?_
          refine own_st (fun _ k => XS.iloadN X118.here hx rfl (hb hby own_d7_52) rfl k) ?_
          obtain ⟨cq145, q145, qq145⟩ := fj115_0.cell
          obtain ⟨_, _, ⟨T145, L145, k145, n145⟩, -, X145, ⟨Lc145, hQ145, l145, y145, z145⟩, st145⟩ := X118.privateBack hx (y := oM2) hown (mvT hZ (oW hw 84 rfl)) (mvT hZ (oW hw 85 rfl)) (own_selpriv hZ (oW hw 3 rfl) (oW hw 86 rfl) (oW hw 85 rfl) (by decide)) (Cond.privateMethod_at (mvP hZ (oW hw 86 rfl) (args := #[]))) (mvT hZ (oW hw 87 rfl)) (by decide) (backOf (W := 0) (own_next l Z a0 hw [] a ix ob ko z (own_fj z.toNatClampNeg (fun p => ofs (f p))) h115 n0 Zs115 fj115_1 fj115_3 hz) hZ (oW hw 87 rfl) (oW hw 4 rfl) (by decide) (by decide)) (g := (mkF m 53 #[.val (.ref a), .val (.int x), .val (.ref b1), .val (.int ix)] [(.int ix), (.ref a)])) rfl (by rw [hml]; rfl) (Steps.refl _) (a := a) (by rw [e118]; exact q145) qq145 (argsL := [(.int ix)]) (rest := []) (lenOf own_pd91181837 rfl) rfl (by show 2 * 0 + _ ≤ _; exact Nat.le_of_eq rfl) (hb hby own_d7_53) (fun _ _ => ⟨rfl, e118, (by decide : 7 + 0 ≤ 11), (by decide : 18 + 0 ≤ 22)⟩)
          dsimp only [Pt.U, Pt.locs, Pt.cells, Pt.slots] at X145 l145 y145 z145 st145 hQ145
          subst l145 y145 z145
          obtain ⟨hh145, eh0145⟩ : ∃ z, T145.heap = z := ⟨_, rfl⟩
          rw [eh0145] at hQ145
          obtain ⟨rfl, Nq145, eh145⟩ := hQ145
          have N145 := Fr.app N115 Nq145
          refine own_tr st145 ?_
          have e145 : T145.heap = h115 := eh0145.trans eh145
          show own_Gl _ _ _ _ _ _ _ (T145.setTop (mkF m 56 #[.val (.ref a), .val (.int x), .val (.ref b1), .val (.int ix)] [(.int (own_nxt ix z))]))
          refine own_st (fun _ k => XS.istoreN X145.here hx rfl (hb hby own_d7_56) rfl (l' := #[.val (.ref a), .val (.int x), .val (.ref b1), .val (.int (own_nxt ix z))]) rfl k) ?_
          refine own_st (fun _ k => XS.goto X145.here hx rfl (pc0 := 57) (pc' := 14) rfl (hb hby own_d7_57) (by decide) (by decide) k) ?_
          show own_Gl _ _ _ _ _ _ _ (T145.setTop (mkF m 14 #[.val (.ref a), .val (.int x), .val (.ref b1), .val (.int (own_nxt ix z))] []))
          exact ih115 _ (by omega) T145 _ N145 X145 _ e145 ((su + 1)) ((own_nxt ix z)) (mc) (ed) (ke) (rf) Zs115 Kj115 fj115_0 fj115_1 fj115_2 fj115_3 fj115_4 fj115_5 fj115_6 fj115_7 fj115_8 fj115_9 fj115_10 (own_nxt_in ix z hz hix).1 (by rw [(own_nxt_in ix z hz hix).2, hiu, Nat.mod_add_mod, Nat.add_assoc]) hlt (by rw [own_ds_no _ _ _ _ _ _ hyn]; exact hlen) g_ed gh_ed ne_ed_li ne_ed_a ne_ed_ob ne_ed_sb hov (by rw [own_ds_no _ _ _ _ _ _ hyn]; exact hel) rfl
  have J14_146 : ∀ (k146 : Nat) (T146 : State) (LL146 : List Loc) (N146 : Fr n0 LL146) (X146 : Stand p l e ⟨5, 11, 22, 69⟩ s m #[(.ref a), (.int x)] below meth c T146 LL146 6 17) (h146 : Heap) (e146 : T146.heap = h146) (su : Nat) (ix : Int32) (mc : Int32) (ed : Addr) (ke : ClassId) (rf : Nat → Addr) (Zs146 : n0 ≤ h146.size) (Kj146 : Keep h0 h146 []) (fj146_0 : Exa Z h146 a "com/example/assayline/assayline/core/MessageIndex") (fj146_1 : Fld Z h146 a "com/example/assayline/assayline/core/MessageIndex" "offsets" "[J" (.ref ob)) (fj146_2 : Fld Z h146 a "com/example/assayline/assayline/core/MessageIndex" "hashes" "[I" (.ref sb)) (fj146_3 : Arv Z h146 ob ko .long z (own_fj z.toNatClampNeg (fun p => ofs (f p))) (.long (0 : Int64))) (fj146_4 : Arv Z h146 sb kh .int z (own_fl z.toNatClampNeg (fun p => hs (f p))) (.int 0)) (fj146_5 : Exa Z h146 b1 "java/util/ArrayList") (fj146_6 : Fld Z h146 b1 "java/util/AbstractList" "modCount" "I" (.int mc)) (fj146_7 : Fld Z h146 b1 "java/util/ArrayList" "elementData" "[Ljava/lang/Object;" (.ref ed)) (fj146_8 : Fld Z h146 b1 "java/util/ArrayList" "size" "I" (.int 4)) (fj146_9 : Old Z n0 h146) (fj146_10 : Arv Z h146 ed ke (.object "java/lang/Object") (10 : Int32) (own_rl 4 rf) .null) (hix : ¬ ix < 0 ∧ ix < z) (hiu : ix.toNatClampNeg = ((own_fi x z).toNatClampNeg + su) % z.toNatClampNeg) (hsu : su ≤ tt) (hlen : (own_ds hs x f z.toNatClampNeg (own_fi x z).toNatClampNeg su).length = 4) (g_ed : n0 ≤ ed) (gh_ed : h0.size ≤ ed) (ne_ed_li : ed ≠ b1) (ne_ed_a : ed ≠ a) (ne_ed_ob : ed ≠ ob) (ne_ed_sb : ed ≠ sb) (hov : Ovr Z ke "java/lang/Object") (hel : own_He Z h146 ofs (own_ds hs x f z.toNatClampNeg (own_fi x z).toNatClampNeg su) rf) (hk146 : tt - su = k146), own_Gl p e below s (own_Q_own_off Z a x ob sb ko kh z f ofs hs SS cn de kd ca ccl h0 n0) 11 22 (T146.setTop (mkF m 14 #[.val (.ref a), .val (.int x), .val (.ref b1), .val (.int ix)] [])) := by
    intro k146
    induction k146 using Nat.strongRecOn with
    | _ k146 ih146 =>
      intro T146 LL146 N146 X146 h146 e146 su ix mc ed ke rf Zs146 Kj146 fj146_0 fj146_1 fj146_2 fj146_3 fj146_4 fj146_5 fj146_6 fj146_7 fj146_8 fj146_9 fj146_10 hix hiu hsu hlen g_ed gh_ed ne_ed_li ne_ed_a ne_ed_ob ne_ed_sb hov hel hk146
      show own_Gl _ _ _ _ _ _ _ (T146.setTop (mkF m 14 #[.val (.ref a), .val (.int x), .val (.ref b1), .val (.int ix)] []))
      refine own_st (fun _ k => XS.aloadN X146.here hx rfl (hb hby own_d7_14) rfl rfl k) ?_
      obtain ⟨T147, X147, e147, st147⟩ := getF X146 hx hZ hown (host := "") (Or.inl (oW hw 12 rfl)) Via.refl e146 fj146_1 (g := (mkF m 15 #[.val (.ref a), .val (.int x), .val (.ref b1), .val (.int ix)] [(.ref a)])) rfl rfl (hb hby own_d7_15)
      refine own_st st147 ?_
      refine own_st (fun _ k => XS.iloadN X147.here hx rfl (hb hby own_d7_18) rfl k) ?_
      obtain ⟨cl148, Ar148, qq148, Ss148, Nn148, Hh148, Gg148⟩ := id fj146_3
      have hin148 : ¬ (ix < 0 ∨ cl148.slots.size ≤ (ix).toNatClampNeg) := inb_of Ss148 hix
      have hat148 : cl148.slots[(ix).toNatClampNeg]? = some (.long (ofs (f ix.toNatClampNeg))) := Hh148.at hin148 (own_fj_get _ _ _ _ (own_natlt hix.1 hix.2))
      refine own_st (X147.laload hx (j := ix) (v := (.long (ofs (f ix.toNatClampNeg)))) (by rw [e147]; exact Ar148.1) (State.isArrayOf_alike hZ.alike Ar148.2.1) Ar148.2.2 hin148 hat148 (g := (mkF m 19 #[.val (.ref a), .val (.int x), .val (.ref b1), .val (.int ix)] [(.int ix), (.ref ob)])) rfl rfl (hb hby own_d7_19)) ?_
      show own_Gl _ _ _ _ _ _ _ (T147.setTop (mkF m 20 #[.val (.ref a), .val (.int x), .val (.ref b1), .val (.int ix)] [(.long (ofs (f ix.toNatClampNeg)))]))
      refine own_st (fun _ k => XS.lconst X147.here hx rfl (hb hby own_d7_20) k) ?_
      refine own_st (fun _ k => XS.lcmp X147.here hx rfl (hb hby own_d7_21) rfl k) ?_
      by_cases hc22 : (ofs (f ix.toNatClampNeg)) = (0 : Int64)
      · have hst : su = tt := by
          rcases Nat.lt_or_eq_of_le hsu with q | q
          · exact absurd ((hof9 _ (hok.le _)).1.mp hc22) (by rw [hiu]; exact htn su q)
          · exact q
        rw [hst] at hlen
        rw [hst] at hel
        refine own_st (fun _ k => XS.ifYes X147.here hx rfl (pc0 := 22) (pc' := 60) rfl (hb hby own_d7_22) rfl ((if0 _ _).trans (teq ((lw_eq _ _).mpr hc22)).1) (by decide) (by decide) k) ?_
        refine own_st (fun _ k => XS.aloadN X147.here hx rfl (hb hby own_d7_60) rfl rfl k) ?_
        show own_Gl _ _ _ _ _ _ _ (T147.setTop (mkF m 61 #[.val (.ref a), .val (.int x), .val (.ref b1), .val (.int ix)] [(.ref b1)]))
        exact own_retA X147 hx hlk hret rfl rfl rfl (hb hby own_d7_61) e147 ⟨b1, (4 : Int32), (own_ds hs x f z.toNatClampNeg (own_fi x z).toNatClampNeg tt), rfl, N146, Kj146, fj146_5, fj146_8, (by rw [hlen]; rfl), (own_ds_nodup hok hs x _ tt (Nat.le_of_lt htZ) htn), (own_ds_mem hok hs x _ tt (fun j e => by unfold own_q; rw [e]) ht0 htn), (by rw [hlen]; decide), (fun i hi => ⟨ed, ke, rf, fj146_7, by rw [hlen]; exact fj146_10, hel⟩)⟩ (by decide) (by decide)
      · have hlt : su + 1 ≤ tt := by
          rcases Nat.lt_or_eq_of_le hsu with q | q
          · exact q
          · exact absurd ((hof9 _ (hok.le _)).1.mpr (by rw [hiu, q]; exact ht0)) hc22
        refine own_st (fun _ k => XS.ifNo X147.here hx rfl (hb hby own_d7_22) rfl ((if0 _ _).trans (feq (mt (lw_eq _ _).mp hc22)).1) k) ?_
        refine own_st (fun _ k => XS.aloadN X147.here hx rfl (hb hby own_d7_25) rfl rfl k) ?_
        show own_Gl _ _ _ _ _ _ _ (T147.setTop (mkF m 26 #[.val (.ref a), .val (.int x), .val (.ref b1), .val (.int ix)] [(.ref a)]))
        obtain ⟨T149, X149, e149, st149⟩ := getF X147 hx hZ hown (host := "") (Or.inl (oW hw 15 rfl)) Via.refl e147 fj146_2 (g := (mkF m 26 #[.val (.ref a), .val (.int x), .val (.ref b1), .val (.int ix)] [(.ref a)])) rfl rfl (hb hby own_d7_26)
        refine own_st st149 ?_
        refine own_st (fun _ k => XS.iloadN X149.here hx rfl (hb hby own_d7_29) rfl k) ?_
        obtain ⟨cl150, Ar150, qq150, Ss150, Nn150, Hh150, Gg150⟩ := id fj146_4
        have hin150 : ¬ (ix < 0 ∨ cl150.slots.size ≤ (ix).toNatClampNeg) := inb_of Ss150 hix
        have hat150 : cl150.slots[(ix).toNatClampNeg]? = some (.int (hs (f ix.toNatClampNeg))) := Hh150.at hin150 (own_fl_get _ _ _ _ (own_natlt hix.1 hix.2))
        refine own_st (X149.iaload hx (j := ix) (v := (.int (hs (f ix.toNatClampNeg)))) (by rw [e149]; exact Ar150.1) (State.isArrayOf_alike hZ.alike Ar150.2.1) Ar150.2.2 hin150 hat150 (g := (mkF m 30 #[.val (.ref a), .val (.int x), .val (.ref b1), .val (.int ix)] [(.int ix), (.ref sb)])) rfl rfl (hb hby own_d7_30)) ?_
        refine own_st (fun _ k => XS.iloadN X149.here hx rfl (hb hby own_d7_31) rfl k) ?_
        show own_Gl _ _ _ _ _ _ _ (T149.setTop (mkF m 32 #[.val (.ref a), .val (.int x), .val (.ref b1), .val (.int ix)] [(.int x), (.int (hs (f ix.toNatClampNeg)))]))
        by_cases hc32 : (hs (f ix.toNatClampNeg)) = x
        · have hyn : hs (f (((own_fi x z).toNatClampNeg + su) % z.toNatClampNeg)) = x := by rw [← hiu]; exact hc32
          have hl1 := own_ds_len hok hs x (own_fi x z).toNatClampNeg (su + 1) (by omega) (fun u hu => htn u (by omega))
          rw [own_ds_yes _ _ _ _ _ _ hyn, List.length_append, hlen, List.length_singleton] at hl1
          refine own_st (fun _ k => XS.icmpNo X149.here hx rfl (hb hby own_d7_32) rfl (teq hc32).2 k) ?_
          refine own_st (fun _ k => XS.aloadN X149.here hx rfl (hb hby own_d7_35) rfl rfl k) ?_
          refine own_st (fun _ k => XS.aloadN X149.here hx rfl (hb hby own_d7_36) rfl rfl k) ?_
          obtain ⟨T151, X151, e151, st151⟩ := getF X149 hx hZ hown (host := "") (Or.inl (oW hw 12 rfl)) Via.refl e149 fj146_1 (g := (mkF m 37 #[.val (.ref a), .val (.int x), .val (.ref b1), .val (.int ix)] [(.ref a), (.ref b1)])) rfl rfl (hb hby own_d7_37)
          refine own_st st151 ?_
          show own_Gl _ _ _ _ _ _ _ (T151.setTop (mkF m 40 #[.val (.ref a), .val (.int x), .val (.ref b1), .val (.int ix)] [(.ref ob), (.ref b1)]))
          refine own_st (fun _ k => XS.iloadN X151.here hx rfl (hb hby own_d7_40) rfl k) ?_
          obtain ⟨cl152, Ar152, qq152, Ss152, Nn152, Hh152, Gg152⟩ := id fj146_3
          have hin152 : ¬ (ix < 0 ∨ cl152.slots.size ≤ (ix).toNatClampNeg) := inb_of Ss152 hix
          have hat152 : cl152.slots[(ix).toNatClampNeg]? = some (.long (ofs (f ix.toNatClampNeg))) := Hh152.at hin152 (own_fj_get _ _ _ _ (own_natlt hix.1 hix.2))
          refine own_st (X151.laload hx (j := ix) (v := (.long (ofs (f ix.toNatClampNeg)))) (by rw [e151]; exact Ar152.1) (State.isArrayOf_alike hZ.alike Ar152.2.1) Ar152.2.2 hin152 hat152 (g := (mkF m 41 #[.val (.ref a), .val (.int x), .val (.ref b1), .val (.int ix)] [(.int ix), (.ref ob), (.ref b1)])) rfl rfl (hb hby own_d7_41)) ?_
          obtain ⟨_, _, ⟨T153, L153, k153, n153⟩, -, X153, ⟨Lc153, hQ153, l153, y153, z153⟩, st153⟩ := Jvm.LawKit.callS X151 hx (y := oM8) hown (mvT hZ (oW hw 94 rfl)) (mvT hZ (oW hw 95 rfl)) (mvT hZ (oW hw 96 rfl)) (mvT hZ (oW hw 97 rfl)) (by decide) (backOf (W := 1) (own_valueOf l Z a0 hw [] (ofs (f ix.toNatClampNeg)) ca ccl h146 n0 Zs146 (S_cache.ext fj146_9.2) (hcaZ.ext fj146_9.2) hcs (fun j q1 q2 => (hcacheZ j q1 q2).imp fun r q => ⟨q.1, q.2.1.ext fj146_9.2, q.2.2.ext fj146_9.2⟩)) hZ (oW hw 97 rfl) (oW hw 96 rfl) (by decide) (by decide)) (g := (mkF m 42 #[.val (.ref a), .val (.int x), .val (.ref b1), .val (.int ix)] [(.long (ofs (f ix.toNatClampNeg))), (.ref b1)])) rfl (by rw [hml]; rfl) (argsL := [(.long (ofs (f ix.toNatClampNeg)))]) (rest := [(.ref b1)]) (lenOf own_pd940381112 rfl) rfl (by show 2 * 0 + _ ≤ _; exact Nat.le_of_eq rfl) (hb hby own_d7_42) (fun _ _ => ⟨rfl, e151, (by decide : 6 + 1 ≤ 11), (by decide : 17 + 1 ≤ 22)⟩)
          dsimp only [Pt.U, Pt.locs, Pt.cells, Pt.slots] at X153 l153 y153 z153 st153 hQ153
          subst l153 y153 z153
          obtain ⟨hh153, eh0153⟩ : ∃ z, T153.heap = z := ⟨_, rfl⟩
          rw [eh0153] at hQ153
          obtain ⟨r_153, rfl, Nq153, Kq153, P153_0, P153_1⟩ := hQ153
          have N153 := Fr.app N146 Nq153
          refine own_st st153 ?_
          have Zs154 : n0 ≤ hh153.size := Nat.le_trans Zs146 Kq153.1
          have f155 := (fj146_5.keep Kq153)
          have ne_r_li : r_153 ≠ b1 := own_exne P153_0 f155 (by decide)
          have f156 := (fj146_10.keep Kq153 nin0)
          have ne_r_ed : r_153 ≠ ed := Exa.neArv P153_0 f156 (oW hw 101 rfl)
          have hel0 := own_He_keep hel Kq153 (fun _ _ => nin0)
          have f158 := (fj146_6.keep Kq153 nin0)
          have f159 := (fj146_7.keep Kq153 nin0)
          have f160 := (fj146_8.keep Kq153 nin0)
          have f161 := (fj146_0.keep Kq153)
          have f162 := (fj146_3.keep Kq153 nin0)
          have f163 := (fj146_4.keep Kq153 nin0)
          obtain ⟨cq157, kq157, q157a, q157b, q157c⟩ := isOf hZ eh0153 f155
          obtain ⟨_, _, ⟨T157, L157, k157, n157⟩, -, X157, ⟨Lc157, hQ157, l157, y157, z157⟩, st157⟩ := X153.interfaceBack hx (xi := oM18) (y := oM16) hown (mvT hZ (oW hw 115 rfl)) (mvT hZ (oW hw 116 rfl)) (mvT hZ (oW hw 117 rfl)) (mvT hZ (oW hw 118 rfl)) (mvT hZ (oW hw 119 rfl)) (mvT hZ (oW hw 120 rfl)) (mvT hZ (oW hw 121 rfl)) (mvT hZ (oW hw 76 rfl)) (by decide) (backOf (W := 0) (own_add1m l Z a0 hw [] b1 r_153 ed ke mc (4 : Int32) 4 rf hh153 n0 Zs154 f155 f158 f159 f160 g_b1 g_ed (Ne.symm ne_ed_li) P153_0 f156 hov rfl (by decide)) hZ (oW hw 122 rfl) (oW hw 44 rfl) (by decide) (by decide)) q157a q157b q157c (g := (mkF m 45 #[.val (.ref a), .val (.int x), .val (.ref b1), .val (.int ix)] [(.ref r_153), (.ref b1)])) rfl (by rw [hml]; rfl) (Steps.refl _) (argsL := [(.ref r_153)]) (rest := []) (lenOf own_pd963338152 rfl) rfl (by show 2 * 0 + _ ≤ _; exact Nat.le_of_eq rfl) (hb hby own_d7_45) (fun _ _ => ⟨rfl, eh0153, (by decide : 7 + 0 ≤ 11), (by decide : 18 + 0 ≤ 22)⟩)
          dsimp only [Pt.U, Pt.locs, Pt.cells, Pt.slots] at X157 l157 y157 z157 st157 hQ157
          subst l157 y157 z157
          obtain ⟨hh157, eh0157⟩ : ∃ z, T157.heap = z := ⟨_, rfl⟩
          rw [eh0157] at hQ157
          obtain ⟨rfl, Nq157, Kq157, P157_0, P157_1, P157_2, P157_3⟩ := hQ157
          have N157 := Fr.app N153 Nq157
          refine own_tr st157 ?_
          have Zs164 : n0 ≤ hh157.size := Nat.le_trans Zs154 Kq157.1
          have f165 := (P153_0.keep Kq157)
          have f166 := (P153_1.keep Kq157 (ninS ne_r_li (ninS ne_r_ed nin0)))
          have hel1 := own_He_keep hel0 Kq157 (fun i hi => ninS (own_exne (hel0 i hi).1 f155 (by decide)) (ninS (Exa.neArv (hel0 i hi).1 f156 (oW hw 101 rfl)) nin0))
          have hel2 := own_He_add hel1 hlen f165 f166
          rw [hiu] at hel2
          show own_Gl _ _ _ _ _ _ _ (T157.setTop (mkF m 50 #[.val (.ref a), .val (.int x), .val (.ref b1), .val (.int ix)] [(.int 1)]))
          refine own_st (fun _ k => XS.pop X157.here hx rfl (hb hby own_d7_50) rfl rfl k) ?_
          refine own_st (fun _ k => XS.aloadN X157.here hx rfl (hb hby own_d7_51) rfl rfl k) ?_
          refine own_st (fun _ k => XS.iloadN X157.here hx rfl (hb hby own_d7_52) rfl k) ?_
          have f168 := ((fj146_1.keep Kq153 nin0).keep Kq157 (ninS ne_a_b1 (ninS (Ne.symm ne_ed_a) nin0)))
          have f169 := (f162.keep Kq157 (ninS ne_ob_b1 (ninS (Ne.symm ne_ed_ob) nin0)))
          have f170 := (f161.keep Kq157)
          have f171 := (f163.keep Kq157 (ninS ne_sb_b1 (ninS (Ne.symm ne_ed_sb) nin0)))
          have f172 := (f155.keep Kq157)
          obtain ⟨cq167, q167, qq167⟩ := f170.cell
          obtain ⟨_, _, ⟨T167, L167, k167, n167⟩, -, X167, ⟨Lc167, hQ167, l167, y167, z167⟩, st167⟩ := X157.privateBack hx (y := oM2) hown (mvT hZ (oW hw 84 rfl)) (mvT hZ (oW hw 85 rfl)) (own_selpriv hZ (oW hw 3 rfl) (oW hw 86 rfl) (oW hw 85 rfl) (by decide)) (Cond.privateMethod_at (mvP hZ (oW hw 86 rfl) (args := #[]))) (mvT hZ (oW hw 87 rfl)) (by decide) (backOf (W := 0) (own_next l Z a0 hw [] a ix ob ko z (own_fj z.toNatClampNeg (fun p => ofs (f p))) hh157 n0 Zs164 f168 f169 hz) hZ (oW hw 87 rfl) (oW hw 4 rfl) (by decide) (by decide)) (g := (mkF m 53 #[.val (.ref a), .val (.int x), .val (.ref b1), .val (.int ix)] [(.int ix), (.ref a)])) rfl (by rw [hml]; rfl) (Steps.refl _) (a := a) (by rw [eh0157]; exact q167) qq167 (argsL := [(.int ix)]) (rest := []) (lenOf own_pd91181837 rfl) rfl (by show 2 * 0 + _ ≤ _; exact Nat.le_of_eq rfl) (hb hby own_d7_53) (fun _ _ => ⟨rfl, eh0157, (by decide : 7 + 0 ≤ 11), (by decide : 18 + 0 ≤ 22)⟩)
          dsimp only [Pt.U, Pt.locs, Pt.cells, Pt.slots] at X167 l167 y167 z167 st167 hQ167
          subst l167 y167 z167
          obtain ⟨hh167, eh0167⟩ : ∃ z, T167.heap = z := ⟨_, rfl⟩
          rw [eh0167] at hQ167
          obtain ⟨rfl, Nq167, eh167⟩ := hQ167
          have N167 := Fr.app N157 Nq167
          refine own_tr st167 ?_
          have e167 : T167.heap = hh157 := eh0167.trans eh167
          show own_Gl _ _ _ _ _ _ _ (T167.setTop (mkF m 56 #[.val (.ref a), .val (.int x), .val (.ref b1), .val (.int ix)] [(.int (own_nxt ix z))]))
          refine own_st (fun _ k => XS.istoreN X167.here hx rfl (hb hby own_d7_56) rfl (l' := #[.val (.ref a), .val (.int x), .val (.ref b1), .val (.int (own_nxt ix z))]) rfl k) ?_
          refine own_st (fun _ k => XS.goto X167.here hx rfl (pc0 := 57) (pc' := 14) rfl (hb hby own_d7_57) (by decide) (by decide) k) ?_
          have K173 : Keep h0 hh157 [] := ((Kj146.trans Kq153 all0).trans Kq157 (allS (Or.inr gh_b1) (allS (Or.inr gh_ed) all0)))
          have f174 := ((fj146_2.keep Kq153 nin0).keep Kq157 (ninS ne_a_b1 (ninS (Ne.symm ne_ed_a) nin0)))
          have f175 := ((fj146_9.keep Kq153 all0).keep Kq157 (allS g_b1 (allS g_ed all0)))
          show own_Gl _ _ _ _ _ _ _ (T167.setTop (mkF m 14 #[.val (.ref a), .val (.int x), .val (.ref b1), .val (.int (own_nxt ix z))] []))
          exact J14_115 _ T167 _ N167 X167 _ e167 ((su + 1)) ((own_nxt ix z)) ((mc + (1 : Int32))) (ed) (ke) ((fun i => if i = 4 then r_153 else rf i)) Zs164 K173 f170 f168 f174 f169 f171 f172 P157_0 P157_1 P157_2 f175 P157_3 (own_nxt_in ix z hz hix).1 (by rw [(own_nxt_in ix z hz hix).2, hiu, Nat.mod_add_mod, Nat.add_assoc]) hlt (by rw [own_ds_yes _ _ _ _ _ _ hyn, List.length_append, hlen]; rfl) g_ed gh_ed ne_ed_li ne_ed_a ne_ed_ob ne_ed_sb hov (by rw [own_ds_yes _ _ _ _ _ _ hyn]; exact hel2) rfl
        · have hyn : ¬ hs (f (((own_fi x z).toNatClampNeg + su) % z.toNatClampNeg)) = x := by rw [← hiu]; exact hc32
          refine own_st (fun _ k => XS.icmpYes X149.here hx rfl (pc0 := 32) (pc' := 51) rfl (hb hby own_d7_32) rfl (feq hc32).2 (by decide) (by decide) k) ?_
          refine own_st (fun _ k => XS.aloadN X149.here hx rfl (hb hby own_d7_51) rfl rfl k) ?_
          refine own_st (fun _ k => XS.iloadN X149.here hx rfl (hb hby own_d7_52) rfl k) ?_
          obtain ⟨cq176, q176, qq176⟩ := fj146_0.cell
          obtain ⟨_, _, ⟨T176, L176, k176, n176⟩, -, X176, ⟨Lc176, hQ176, l176, y176, z176⟩, st176⟩ := X149.privateBack hx (y := oM2) hown (mvT hZ (oW hw 84 rfl)) (mvT hZ (oW hw 85 rfl)) (own_selpriv hZ (oW hw 3 rfl) (oW hw 86 rfl) (oW hw 85 rfl) (by decide)) (Cond.privateMethod_at (mvP hZ (oW hw 86 rfl) (args := #[]))) (mvT hZ (oW hw 87 rfl)) (by decide) (backOf (W := 0) (own_next l Z a0 hw [] a ix ob ko z (own_fj z.toNatClampNeg (fun p => ofs (f p))) h146 n0 Zs146 fj146_1 fj146_3 hz) hZ (oW hw 87 rfl) (oW hw 4 rfl) (by decide) (by decide)) (g := (mkF m 53 #[.val (.ref a), .val (.int x), .val (.ref b1), .val (.int ix)] [(.int ix), (.ref a)])) rfl (by rw [hml]; rfl) (Steps.refl _) (a := a) (by rw [e149]; exact q176) qq176 (argsL := [(.int ix)]) (rest := []) (lenOf own_pd91181837 rfl) rfl (by show 2 * 0 + _ ≤ _; exact Nat.le_of_eq rfl) (hb hby own_d7_53) (fun _ _ => ⟨rfl, e149, (by decide : 6 + 0 ≤ 11), (by decide : 17 + 0 ≤ 22)⟩)
          dsimp only [Pt.U, Pt.locs, Pt.cells, Pt.slots] at X176 l176 y176 z176 st176 hQ176
          subst l176 y176 z176
          obtain ⟨hh176, eh0176⟩ : ∃ z, T176.heap = z := ⟨_, rfl⟩
          rw [eh0176] at hQ176
          obtain ⟨rfl, Nq176, eh176⟩ := hQ176
          have N176 := Fr.app N146 Nq176
          refine own_tr st176 ?_
          have e176 : T176.heap = h146 := eh0176.trans eh176
          show own_Gl _ _ _ _ _ _ _ (T176.setTop (mkF m 56 #[.val (.ref a), .val (.int x), .val (.ref b1), .val (.int ix)] [(.int (own_nxt ix z))]))
          refine own_st (fun _ k => XS.istoreN X176.here hx rfl (hb hby own_d7_56) rfl (l' := #[.val (.ref a), .val (.int x), .val (.ref b1), .val (.int (own_nxt ix z))]) rfl k) ?_
          refine own_st (fun _ k => XS.goto X176.here hx rfl (pc0 := 57) (pc' := 14) rfl (hb hby own_d7_57) (by decide) (by decide) k) ?_
          show own_Gl _ _ _ _ _ _ _ (T176.setTop (mkF m 14 #[.val (.ref a), .val (.int x), .val (.ref b1), .val (.int (own_nxt ix z))] []))
          exact ih146 _ (by omega) T176 _ N176 X176 _ e176 ((su + 1)) ((own_nxt ix z)) (mc) (ed) (ke) (rf) Zs146 Kj146 fj146_0 fj146_1 fj146_2 fj146_3 fj146_4 fj146_5 fj146_6 fj146_7 fj146_8 fj146_9 fj146_10 (own_nxt_in ix z hz hix).1 (by rw [(own_nxt_in ix z hz hix).2, hiu, Nat.mod_add_mod, Nat.add_assoc]) hlt (by rw [own_ds_no _ _ _ _ _ _ hyn]; exact hlen) g_ed gh_ed ne_ed_li ne_ed_a ne_ed_ob ne_ed_sb hov (by rw [own_ds_no _ _ _ _ _ _ hyn]; exact hel) rfl
  have J14_177 : ∀ (k177 : Nat) (T177 : State) (LL177 : List Loc) (N177 : Fr n0 LL177) (X177 : Stand p l e ⟨5, 11, 22, 69⟩ s m #[(.ref a), (.int x)] below meth c T177 LL177 5 16) (h177 : Heap) (e177 : T177.heap = h177) (su : Nat) (ix : Int32) (mc : Int32) (ed : Addr) (ke : ClassId) (rf : Nat → Addr) (Zs177 : n0 ≤ h177.size) (Kj177 : Keep h0 h177 []) (fj177_0 : Exa Z h177 a "com/example/assayline/assayline/core/MessageIndex") (fj177_1 : Fld Z h177 a "com/example/assayline/assayline/core/MessageIndex" "offsets" "[J" (.ref ob)) (fj177_2 : Fld Z h177 a "com/example/assayline/assayline/core/MessageIndex" "hashes" "[I" (.ref sb)) (fj177_3 : Arv Z h177 ob ko .long z (own_fj z.toNatClampNeg (fun p => ofs (f p))) (.long (0 : Int64))) (fj177_4 : Arv Z h177 sb kh .int z (own_fl z.toNatClampNeg (fun p => hs (f p))) (.int 0)) (fj177_5 : Exa Z h177 b1 "java/util/ArrayList") (fj177_6 : Fld Z h177 b1 "java/util/AbstractList" "modCount" "I" (.int mc)) (fj177_7 : Fld Z h177 b1 "java/util/ArrayList" "elementData" "[Ljava/lang/Object;" (.ref ed)) (fj177_8 : Fld Z h177 b1 "java/util/ArrayList" "size" "I" (.int 3)) (fj177_9 : Old Z n0 h177) (fj177_10 : Arv Z h177 ed ke (.object "java/lang/Object") (10 : Int32) (own_rl 3 rf) .null) (hix : ¬ ix < 0 ∧ ix < z) (hiu : ix.toNatClampNeg = ((own_fi x z).toNatClampNeg + su) % z.toNatClampNeg) (hsu : su ≤ tt) (hlen : (own_ds hs x f z.toNatClampNeg (own_fi x z).toNatClampNeg su).length = 3) (g_ed : n0 ≤ ed) (gh_ed : h0.size ≤ ed) (ne_ed_li : ed ≠ b1) (ne_ed_a : ed ≠ a) (ne_ed_ob : ed ≠ ob) (ne_ed_sb : ed ≠ sb) (hov : Ovr Z ke "java/lang/Object") (hel : own_He Z h177 ofs (own_ds hs x f z.toNatClampNeg (own_fi x z).toNatClampNeg su) rf) (hk177 : tt - su = k177), own_Gl p e below s (own_Q_own_off Z a x ob sb ko kh z f ofs hs SS cn de kd ca ccl h0 n0) 11 22 (T177.setTop (mkF m 14 #[.val (.ref a), .val (.int x), .val (.ref b1), .val (.int ix)] [])) := by
    intro k177
    induction k177 using Nat.strongRecOn with
    | _ k177 ih177 =>
      intro T177 LL177 N177 X177 h177 e177 su ix mc ed ke rf Zs177 Kj177 fj177_0 fj177_1 fj177_2 fj177_3 fj177_4 fj177_5 fj177_6 fj177_7 fj177_8 fj177_9 fj177_10 hix hiu hsu hlen g_ed gh_ed ne_ed_li ne_ed_a ne_ed_ob ne_ed_sb hov hel hk177
      show own_Gl _ _ _ _ _ _ _ (T177.setTop (mkF m 14 #[.val (.ref a), .val (.int x), .val (.ref b1), .val (.int ix)] []))
      refine own_st (fun _ k => XS.aloadN X177.here hx rfl (hb hby own_d7_14) rfl rfl k) ?_
      obtain ⟨T178, X178, e178, st178⟩ := getF X177 hx hZ hown (host := "") (Or.inl (oW hw 12 rfl)) Via.refl e177 fj177_1 (g := (mkF m 15 #[.val (.ref a), .val (.int x), .val (.ref b1), .val (.int ix)] [(.ref a)])) rfl rfl (hb hby own_d7_15)
      refine own_st st178 ?_
      refine own_st (fun _ k => XS.iloadN X178.here hx rfl (hb hby own_d7_18) rfl k) ?_
      obtain ⟨cl179, Ar179, qq179, Ss179, Nn179, Hh179, Gg179⟩ := id fj177_3
      have hin179 : ¬ (ix < 0 ∨ cl179.slots.size ≤ (ix).toNatClampNeg) := inb_of Ss179 hix
      have hat179 : cl179.slots[(ix).toNatClampNeg]? = some (.long (ofs (f ix.toNatClampNeg))) := Hh179.at hin179 (own_fj_get _ _ _ _ (own_natlt hix.1 hix.2))
      refine own_st (X178.laload hx (j := ix) (v := (.long (ofs (f ix.toNatClampNeg)))) (by rw [e178]; exact Ar179.1) (State.isArrayOf_alike hZ.alike Ar179.2.1) Ar179.2.2 hin179 hat179 (g := (mkF m 19 #[.val (.ref a), .val (.int x), .val (.ref b1), .val (.int ix)] [(.int ix), (.ref ob)])) rfl rfl (hb hby own_d7_19)) ?_
      show own_Gl _ _ _ _ _ _ _ (T178.setTop (mkF m 20 #[.val (.ref a), .val (.int x), .val (.ref b1), .val (.int ix)] [(.long (ofs (f ix.toNatClampNeg)))]))
      refine own_st (fun _ k => XS.lconst X178.here hx rfl (hb hby own_d7_20) k) ?_
      refine own_st (fun _ k => XS.lcmp X178.here hx rfl (hb hby own_d7_21) rfl k) ?_
      by_cases hc22 : (ofs (f ix.toNatClampNeg)) = (0 : Int64)
      · have hst : su = tt := by
          rcases Nat.lt_or_eq_of_le hsu with q | q
          · exact absurd ((hof9 _ (hok.le _)).1.mp hc22) (by rw [hiu]; exact htn su q)
          · exact q
        rw [hst] at hlen
        rw [hst] at hel
        refine own_st (fun _ k => XS.ifYes X178.here hx rfl (pc0 := 22) (pc' := 60) rfl (hb hby own_d7_22) rfl ((if0 _ _).trans (teq ((lw_eq _ _).mpr hc22)).1) (by decide) (by decide) k) ?_
        refine own_st (fun _ k => XS.aloadN X178.here hx rfl (hb hby own_d7_60) rfl rfl k) ?_
        show own_Gl _ _ _ _ _ _ _ (T178.setTop (mkF m 61 #[.val (.ref a), .val (.int x), .val (.ref b1), .val (.int ix)] [(.ref b1)]))
        exact own_retA X178 hx hlk hret rfl rfl rfl (hb hby own_d7_61) e178 ⟨b1, (3 : Int32), (own_ds hs x f z.toNatClampNeg (own_fi x z).toNatClampNeg tt), rfl, N177, Kj177, fj177_5, fj177_8, (by rw [hlen]; rfl), (own_ds_nodup hok hs x _ tt (Nat.le_of_lt htZ) htn), (own_ds_mem hok hs x _ tt (fun j e => by unfold own_q; rw [e]) ht0 htn), (by rw [hlen]; decide), (fun i hi => ⟨ed, ke, rf, fj177_7, by rw [hlen]; exact fj177_10, hel⟩)⟩ (by decide) (by decide)
      · have hlt : su + 1 ≤ tt := by
          rcases Nat.lt_or_eq_of_le hsu with q | q
          · exact q
          · exact absurd ((hof9 _ (hok.le _)).1.mpr (by rw [hiu, q]; exact ht0)) hc22
        refine own_st (fun _ k => XS.ifNo X178.here hx rfl (hb hby own_d7_22) rfl ((if0 _ _).trans (feq (mt (lw_eq _ _).mp hc22)).1) k) ?_
        refine own_st (fun _ k => XS.aloadN X178.here hx rfl (hb hby own_d7_25) rfl rfl k) ?_
        show own_Gl _ _ _ _ _ _ _ (T178.setTop (mkF m 26 #[.val (.ref a), .val (.int x), .val (.ref b1), .val (.int ix)] [(.ref a)]))
        obtain ⟨T180, X180, e180, st180⟩ := getF X178 hx hZ hown (host := "") (Or.inl (oW hw 15 rfl)) Via.refl e178 fj177_2 (g := (mkF m 26 #[.val (.ref a), .val (.int x), .val (.ref b1), .val (.int ix)] [(.ref a)])) rfl rfl (hb hby own_d7_26)
        refine own_st st180 ?_
        refine own_st (fun _ k => XS.iloadN X180.here hx rfl (hb hby own_d7_29) rfl k) ?_
        obtain ⟨cl181, Ar181, qq181, Ss181, Nn181, Hh181, Gg181⟩ := id fj177_4
        have hin181 : ¬ (ix < 0 ∨ cl181.slots.size ≤ (ix).toNatClampNeg) := inb_of Ss181 hix
        have hat181 : cl181.slots[(ix).toNatClampNeg]? = some (.int (hs (f ix.toNatClampNeg))) := Hh181.at hin181 (own_fl_get _ _ _ _ (own_natlt hix.1 hix.2))
        refine own_st (X180.iaload hx (j := ix) (v := (.int (hs (f ix.toNatClampNeg)))) (by rw [e180]; exact Ar181.1) (State.isArrayOf_alike hZ.alike Ar181.2.1) Ar181.2.2 hin181 hat181 (g := (mkF m 30 #[.val (.ref a), .val (.int x), .val (.ref b1), .val (.int ix)] [(.int ix), (.ref sb)])) rfl rfl (hb hby own_d7_30)) ?_
        refine own_st (fun _ k => XS.iloadN X180.here hx rfl (hb hby own_d7_31) rfl k) ?_
        show own_Gl _ _ _ _ _ _ _ (T180.setTop (mkF m 32 #[.val (.ref a), .val (.int x), .val (.ref b1), .val (.int ix)] [(.int x), (.int (hs (f ix.toNatClampNeg)))]))
        by_cases hc32 : (hs (f ix.toNatClampNeg)) = x
        · have hyn : hs (f (((own_fi x z).toNatClampNeg + su) % z.toNatClampNeg)) = x := by rw [← hiu]; exact hc32
          have hl1 := own_ds_len hok hs x (own_fi x z).toNatClampNeg (su + 1) (by omega) (fun u hu => htn u (by omega))
          rw [own_ds_yes _ _ _ _ _ _ hyn, List.length_append, hlen, List.length_singleton] at hl1
          refine own_st (fun _ k => XS.icmpNo X180.here hx rfl (hb hby own_d7_32) rfl (teq hc32).2 k) ?_
          refine own_st (fun _ k => XS.aloadN X180.here hx rfl (hb hby own_d7_35) rfl rfl k) ?_
          refine own_st (fun _ k => XS.aloadN X180.here hx rfl (hb hby own_d7_36) rfl rfl k) ?_
          obtain ⟨T182, X182, e182, st182⟩ := getF X180 hx hZ hown (host := "") (Or.inl (oW hw 12 rfl)) Via.refl e180 fj177_1 (g := (mkF m 37 #[.val (.ref a), .val (.int x), .val (.ref b1), .val (.int ix)] [(.ref a), (.ref b1)])) rfl rfl (hb hby own_d7_37)
          refine own_st st182 ?_
          show own_Gl _ _ _ _ _ _ _ (T182.setTop (mkF m 40 #[.val (.ref a), .val (.int x), .val (.ref b1), .val (.int ix)] [(.ref ob), (.ref b1)]))
          refine own_st (fun _ k => XS.iloadN X182.here hx rfl (hb hby own_d7_40) rfl k) ?_
          obtain ⟨cl183, Ar183, qq183, Ss183, Nn183, Hh183, Gg183⟩ := id fj177_3
          have hin183 : ¬ (ix < 0 ∨ cl183.slots.size ≤ (ix).toNatClampNeg) := inb_of Ss183 hix
          have hat183 : cl183.slots[(ix).toNatClampNeg]? = some (.long (ofs (f ix.toNatClampNeg))) := Hh183.at hin183 (own_fj_get _ _ _ _ (own_natlt hix.1 hix.2))
          refine own_st (X182.laload hx (j := ix) (v := (.long (ofs (f ix.toNatClampNeg)))) (by rw [e182]; exact Ar183.1) (State.isArrayOf_alike hZ.alike Ar183.2.1) Ar183.2.2 hin183 hat183 (g := (mkF m 41 #[.val (.ref a), .val (.int x), .val (.ref b1), .val (.int ix)] [(.int ix), (.ref ob), (.ref b1)])) rfl rfl (hb hby own_d7_41)) ?_
          obtain ⟨_, _, ⟨T184, L184, k184, n184⟩, -, X184, ⟨Lc184, hQ184, l184, y184, z184⟩, st184⟩ := Jvm.LawKit.callS X182 hx (y := oM8) hown (mvT hZ (oW hw 94 rfl)) (mvT hZ (oW hw 95 rfl)) (mvT hZ (oW hw 96 rfl)) (mvT hZ (oW hw 97 rfl)) (by decide) (backOf (W := 1) (own_valueOf l Z a0 hw [] (ofs (f ix.toNatClampNeg)) ca ccl h177 n0 Zs177 (S_cache.ext fj177_9.2) (hcaZ.ext fj177_9.2) hcs (fun j q1 q2 => (hcacheZ j q1 q2).imp fun r q => ⟨q.1, q.2.1.ext fj177_9.2, q.2.2.ext fj177_9.2⟩)) hZ (oW hw 97 rfl) (oW hw 96 rfl) (by decide) (by decide)) (g := (mkF m 42 #[.val (.ref a), .val (.int x), .val (.ref b1), .val (.int ix)] [(.long (ofs (f ix.toNatClampNeg))), (.ref b1)])) rfl (by rw [hml]; rfl) (argsL := [(.long (ofs (f ix.toNatClampNeg)))]) (rest := [(.ref b1)]) (lenOf own_pd940381112 rfl) rfl (by show 2 * 0 + _ ≤ _; exact Nat.le_of_eq rfl) (hb hby own_d7_42) (fun _ _ => ⟨rfl, e182, (by decide : 5 + 1 ≤ 11), (by decide : 16 + 1 ≤ 22)⟩)
          dsimp only [Pt.U, Pt.locs, Pt.cells, Pt.slots] at X184 l184 y184 z184 st184 hQ184
          subst l184 y184 z184
          obtain ⟨hh184, eh0184⟩ : ∃ z, T184.heap = z := ⟨_, rfl⟩
          rw [eh0184] at hQ184
          obtain ⟨r_184, rfl, Nq184, Kq184, P184_0, P184_1⟩ := hQ184
          have N184 := Fr.app N177 Nq184
          refine own_st st184 ?_
          have Zs185 : n0 ≤ hh184.size := Nat.le_trans Zs177 Kq184.1
          have f186 := (fj177_5.keep Kq184)
          have ne_r_li : r_184 ≠ b1 := own_exne P184_0 f186 (by decide)
          have f187 := (fj177_10.keep Kq184 nin0)
          have ne_r_ed : r_184 ≠ ed := Exa.neArv P184_0 f187 (oW hw 101 rfl)
          have hel0 := own_He_keep hel Kq184 (fun _ _ => nin0)
          have f189 := (fj177_6.keep Kq184 nin0)
          have f190 := (fj177_7.keep Kq184 nin0)
          have f191 := (fj177_8.keep Kq184 nin0)
          have f192 := (fj177_0.keep Kq184)
          have f193 := (fj177_3.keep Kq184 nin0)
          have f194 := (fj177_4.keep Kq184 nin0)
          obtain ⟨cq188, kq188, q188a, q188b, q188c⟩ := isOf hZ eh0184 f186
          obtain ⟨_, _, ⟨T188, L188, k188, n188⟩, -, X188, ⟨Lc188, hQ188, l188, y188, z188⟩, st188⟩ := X184.interfaceBack hx (xi := oM18) (y := oM16) hown (mvT hZ (oW hw 115 rfl)) (mvT hZ (oW hw 116 rfl)) (mvT hZ (oW hw 117 rfl)) (mvT hZ (oW hw 118 rfl)) (mvT hZ (oW hw 119 rfl)) (mvT hZ (oW hw 120 rfl)) (mvT hZ (oW hw 121 rfl)) (mvT hZ (oW hw 76 rfl)) (by decide) (backOf (W := 0) (own_add1m l Z a0 hw [] b1 r_184 ed ke mc (3 : Int32) 3 rf hh184 n0 Zs185 f186 f189 f190 f191 g_b1 g_ed (Ne.symm ne_ed_li) P184_0 f187 hov rfl (by decide)) hZ (oW hw 122 rfl) (oW hw 44 rfl) (by decide) (by decide)) q188a q188b q188c (g := (mkF m 45 #[.val (.ref a), .val (.int x), .val (.ref b1), .val (.int ix)] [(.ref r_184), (.ref b1)])) rfl (by rw [hml]; rfl) (Steps.refl _) (argsL := [(.ref r_184)]) (rest := []) (lenOf own_pd963338152 rfl) rfl (by show 2 * 0 + _ ≤ _; exact Nat.le_of_eq rfl) (hb hby own_d7_45) (fun _ _ => ⟨rfl, eh0184, (by decide : 6 + 0 ≤ 11), (by decide : 17 + 0 ≤ 22)⟩)
          dsimp only [Pt.U, Pt.locs, Pt.cells, Pt.slots] at X188 l188 y188 z188 st188 hQ188
          subst l188 y188 z188
          obtain ⟨hh188, eh0188⟩ : ∃ z, T188.heap = z := ⟨_, rfl⟩
          rw [eh0188] at hQ188
          obtain ⟨rfl, Nq188, Kq188, P188_0, P188_1, P188_2, P188_3⟩ := hQ188
          have N188 := Fr.app N184 Nq188
          refine own_tr st188 ?_
          have Zs195 : n0 ≤ hh188.size := Nat.le_trans Zs185 Kq188.1
          have f196 := (P184_0.keep Kq188)
          have f197 := (P184_1.keep Kq188 (ninS ne_r_li (ninS ne_r_ed nin0)))
          have hel1 := own_He_keep hel0 Kq188 (fun i hi => ninS (own_exne (hel0 i hi).1 f186 (by decide)) (ninS (Exa.neArv (hel0 i hi).1 f187 (oW hw 101 rfl)) nin0))
          have hel2 := own_He_add hel1 hlen f196 f197
          rw [hiu] at hel2
          show own_Gl _ _ _ _ _ _ _ (T188.setTop (mkF m 50 #[.val (.ref a), .val (.int x), .val (.ref b1), .val (.int ix)] [(.int 1)]))
          refine own_st (fun _ k => XS.pop X188.here hx rfl (hb hby own_d7_50) rfl rfl k) ?_
          refine own_st (fun _ k => XS.aloadN X188.here hx rfl (hb hby own_d7_51) rfl rfl k) ?_
          refine own_st (fun _ k => XS.iloadN X188.here hx rfl (hb hby own_d7_52) rfl k) ?_
          have f199 := ((fj177_1.keep Kq184 nin0).keep Kq188 (ninS ne_a_b1 (ninS (Ne.symm ne_ed_a) nin0)))
          have f200 := (f193.keep Kq188 (ninS ne_ob_b1 (ninS (Ne.symm ne_ed_ob) nin0)))
          have f201 := (f192.keep Kq188)
          have f202 := (f194.keep Kq188 (ninS ne_sb_b1 (ninS (Ne.symm ne_ed_sb) nin0)))
          have f203 := (f186.keep Kq188)
          obtain ⟨cq198, q198, qq198⟩ := f201.cell
          obtain ⟨_, _, ⟨T198, L198, k198, n198⟩, -, X198, ⟨Lc198, hQ198, l198, y198, z198⟩, st198⟩ := X188.privateBack hx (y := oM2) hown (mvT hZ (oW hw 84 rfl)) (mvT hZ (oW hw 85 rfl)) (own_selpriv hZ (oW hw 3 rfl) (oW hw 86 rfl) (oW hw 85 rfl) (by decide)) (Cond.privateMethod_at (mvP hZ (oW hw 86 rfl) (args := #[]))) (mvT hZ (oW hw 87 rfl)) (by decide) (backOf (W := 0) (own_next l Z a0 hw [] a ix ob ko z (own_fj z.toNatClampNeg (fun p => ofs (f p))) hh188 n0 Zs195 f199 f200 hz) hZ (oW hw 87 rfl) (oW hw 4 rfl) (by decide) (by decide)) (g := (mkF m 53 #[.val (.ref a), .val (.int x), .val (.ref b1), .val (.int ix)] [(.int ix), (.ref a)])) rfl (by rw [hml]; rfl) (Steps.refl _) (a := a) (by rw [eh0188]; exact q198) qq198 (argsL := [(.int ix)]) (rest := []) (lenOf own_pd91181837 rfl) rfl (by show 2 * 0 + _ ≤ _; exact Nat.le_of_eq rfl) (hb hby own_d7_53) (fun _ _ => ⟨rfl, eh0188, (by decide : 6 + 0 ≤ 11), (by decide : 17 + 0 ≤ 22)⟩)
          dsimp only [Pt.U, Pt.locs, Pt.cells, Pt.slots] at X198 l198 y198 z198 st198 hQ198
          subst l198 y198 z198
          obtain ⟨hh198, eh0198⟩ : ∃ z, T198.heap = z := ⟨_, rfl⟩
          rw [eh0198] at hQ198
          obtain ⟨rfl, Nq198, eh198⟩ := hQ198
          have N198 := Fr.app N188 Nq198
          refine own_tr st198 ?_
          have e198 : T198.heap = hh188 := eh0198.trans eh198
          show own_Gl _ _ _ _ _ _ _ (T198.setTop (mkF m 56 #[.val (.ref a), .val (.int x), .val (.ref b1), .val (.int ix)] [(.int (own_nxt ix z))]))
          refine own_st (fun _ k => XS.istoreN X198.here hx rfl (hb hby own_d7_56) rfl (l' := #[.val (.ref a), .val (.int x), .val (.ref b1), .val (.int (own_nxt ix z))]) rfl k) ?_
          refine own_st (fun _ k => XS.goto X198.here hx rfl (pc0 := 57) (pc' := 14) rfl (hb hby own_d7_57) (by decide) (by decide) k) ?_
          have K204 : Keep h0 hh188 [] := ((Kj177.trans Kq184 all0).trans Kq188 (allS (Or.inr gh_b1) (allS (Or.inr gh_ed) all0)))
          have f205 := ((fj177_2.keep Kq184 nin0).keep Kq188 (ninS ne_a_b1 (ninS (Ne.symm ne_ed_a) nin0)))
          have f206 := ((fj177_9.keep Kq184 all0).keep Kq188 (allS g_b1 (allS g_ed all0)))
          show own_Gl _ _ _ _ _ _ _ (T198.setTop (mkF m 14 #[.val (.ref a), .val (.int x), .val (.ref b1), .val (.int (own_nxt ix z))] []))
          exact J14_146 _ T198 _ N198 X198 _ e198 ((su + 1)) ((own_nxt ix z)) ((mc + (1 : Int32))) (ed) (ke) ((fun i => if i = 3 then r_184 else rf i)) Zs195 K204 f201 f199 f205 f200 f202 f203 P188_0 P188_1 P188_2 f206 P188_3 (own_nxt_in ix z hz hix).1 (by rw [(own_nxt_in ix z hz hix).2, hiu, Nat.mod_add_mod, Nat.add_assoc]) hlt (by rw [own_ds_yes _ _ _ _ _ _ hyn, List.length_append, hlen]; rfl) g_ed gh_ed ne_ed_li ne_ed_a ne_ed_ob ne_ed_sb hov (by rw [own_ds_yes _ _ _ _ _ _ hyn]; exact hel2) rfl
        · have hyn : ¬ hs (f (((own_fi x z).toNatClampNeg + su) % z.toNatClampNeg)) = x := by rw [← hiu]; exact hc32
          refine own_st (fun _ k => XS.icmpYes X180.here hx rfl (pc0 := 32) (pc' := 51) rfl (hb hby own_d7_32) rfl (feq hc32).2 (by decide) (by decide) k) ?_
          refine own_st (fun _ k => XS.aloadN X180.here hx rfl (hb hby own_d7_51) rfl rfl k) ?_
          refine own_st (fun _ k => XS.iloadN X180.here hx rfl (hb hby own_d7_52) rfl k) ?_
          obtain ⟨cq207, q207, qq207⟩ := fj177_0.cell
          obtain ⟨_, _, ⟨T207, L207, k207, n207⟩, -, X207, ⟨Lc207, hQ207, l207, y207, z207⟩, st207⟩ := X180.privateBack hx (y := oM2) hown (mvT hZ (oW hw 84 rfl)) (mvT hZ (oW hw 85 rfl)) (own_selpriv hZ (oW hw 3 rfl) (oW hw 86 rfl) (oW hw 85 rfl) (by decide)) (Cond.privateMethod_at (mvP hZ (oW hw 86 rfl) (args := #[]))) (mvT hZ (oW hw 87 rfl)) (by decide) (backOf (W := 0) (own_next l Z a0 hw [] a ix ob ko z (own_fj z.toNatClampNeg (fun p => ofs (f p))) h177 n0 Zs177 fj177_1 fj177_3 hz) hZ (oW hw 87 rfl) (oW hw 4 rfl) (by decide) (by decide)) (g := (mkF m 53 #[.val (.ref a), .val (.int x), .val (.ref b1), .val (.int ix)] [(.int ix), (.ref a)])) rfl (by rw [hml]; rfl) (Steps.refl _) (a := a) (by rw [e180]; exact q207) qq207 (argsL := [(.int ix)]) (rest := []) (lenOf own_pd91181837 rfl) rfl (by show 2 * 0 + _ ≤ _; exact Nat.le_of_eq rfl) (hb hby own_d7_53) (fun _ _ => ⟨rfl, e180, (by decide : 5 + 0 ≤ 11), (by decide : 16 + 0 ≤ 22)⟩)
          dsimp only [Pt.U, Pt.locs, Pt.cells, Pt.slots] at X207 l207 y207 z207 st207 hQ207
          subst l207 y207 z207
          obtain ⟨hh207, eh0207⟩ : ∃ z, T207.heap = z := ⟨_, rfl⟩
          rw [eh0207] at hQ207
          obtain ⟨rfl, Nq207, eh207⟩ := hQ207
          have N207 := Fr.app N177 Nq207
          refine own_tr st207 ?_
          have e207 : T207.heap = h177 := eh0207.trans eh207
          show own_Gl _ _ _ _ _ _ _ (T207.setTop (mkF m 56 #[.val (.ref a), .val (.int x), .val (.ref b1), .val (.int ix)] [(.int (own_nxt ix z))]))
          refine own_st (fun _ k => XS.istoreN X207.here hx rfl (hb hby own_d7_56) rfl (l' := #[.val (.ref a), .val (.int x), .val (.ref b1), .val (.int (own_nxt ix z))]) rfl k) ?_
          refine own_st (fun _ k => XS.goto X207.here hx rfl (pc0 := 57) (pc' := 14) rfl (hb hby own_d7_57) (by decide) (by decide) k) ?_
          show own_Gl _ _ _ _ _ _ _ (T207.setTop (mkF m 14 #[.val (.ref a), .val (.int x), .val (.ref b1), .val (.int (own_nxt ix z))] []))
          exact ih177 _ (by omega) T207 _ N207 X207 _ e207 ((su + 1)) ((own_nxt ix z)) (mc) (ed) (ke) (rf) Zs177 Kj177 fj177_0 fj177_1 fj177_2 fj177_3 fj177_4 fj177_5 fj177_6 fj177_7 fj177_8 fj177_9 fj177_10 (own_nxt_in ix z hz hix).1 (by rw [(own_nxt_in ix z hz hix).2, hiu, Nat.mod_add_mod, Nat.add_assoc]) hlt (by rw [own_ds_no _ _ _ _ _ _ hyn]; exact hlen) g_ed gh_ed ne_ed_li ne_ed_a ne_ed_ob ne_ed_sb hov (by rw [own_ds_no _ _ _ _ _ _ hyn]; exact hel) rfl
  have J14_208 : ∀ (k208 : Nat) (T208 : State) (LL208 : List Loc) (N208 : Fr n0 LL208) (X208 : Stand p l e ⟨5, 11, 22, 69⟩ s m #[(.ref a), (.int x)] below meth c T208 LL208 4 15) (h208 : Heap) (e208 : T208.heap = h208) (su : Nat) (ix : Int32) (mc : Int32) (ed : Addr) (ke : ClassId) (rf : Nat → Addr) (Zs208 : n0 ≤ h208.size) (Kj208 : Keep h0 h208 []) (fj208_0 : Exa Z h208 a "com/example/assayline/assayline/core/MessageIndex") (fj208_1 : Fld Z h208 a "com/example/assayline/assayline/core/MessageIndex" "offsets" "[J" (.ref ob)) (fj208_2 : Fld Z h208 a "com/example/assayline/assayline/core/MessageIndex" "hashes" "[I" (.ref sb)) (fj208_3 : Arv Z h208 ob ko .long z (own_fj z.toNatClampNeg (fun p => ofs (f p))) (.long (0 : Int64))) (fj208_4 : Arv Z h208 sb kh .int z (own_fl z.toNatClampNeg (fun p => hs (f p))) (.int 0)) (fj208_5 : Exa Z h208 b1 "java/util/ArrayList") (fj208_6 : Fld Z h208 b1 "java/util/AbstractList" "modCount" "I" (.int mc)) (fj208_7 : Fld Z h208 b1 "java/util/ArrayList" "elementData" "[Ljava/lang/Object;" (.ref ed)) (fj208_8 : Fld Z h208 b1 "java/util/ArrayList" "size" "I" (.int 2)) (fj208_9 : Old Z n0 h208) (fj208_10 : Arv Z h208 ed ke (.object "java/lang/Object") (10 : Int32) (own_rl 2 rf) .null) (hix : ¬ ix < 0 ∧ ix < z) (hiu : ix.toNatClampNeg = ((own_fi x z).toNatClampNeg + su) % z.toNatClampNeg) (hsu : su ≤ tt) (hlen : (own_ds hs x f z.toNatClampNeg (own_fi x z).toNatClampNeg su).length = 2) (g_ed : n0 ≤ ed) (gh_ed : h0.size ≤ ed) (ne_ed_li : ed ≠ b1) (ne_ed_a : ed ≠ a) (ne_ed_ob : ed ≠ ob) (ne_ed_sb : ed ≠ sb) (hov : Ovr Z ke "java/lang/Object") (hel : own_He Z h208 ofs (own_ds hs x f z.toNatClampNeg (own_fi x z).toNatClampNeg su) rf) (hk208 : tt - su = k208), own_Gl p e below s (own_Q_own_off Z a x ob sb ko kh z f ofs hs SS cn de kd ca ccl h0 n0) 11 22 (T208.setTop (mkF m 14 #[.val (.ref a), .val (.int x), .val (.ref b1), .val (.int ix)] [])) := by
    intro k208
    induction k208 using Nat.strongRecOn with
    | _ k208 ih208 =>
      intro T208 LL208 N208 X208 h208 e208 su ix mc ed ke rf Zs208 Kj208 fj208_0 fj208_1 fj208_2 fj208_3 fj208_4 fj208_5 fj208_6 fj208_7 fj208_8 fj208_9 fj208_10 hix hiu hsu hlen g_ed gh_ed ne_ed_li ne_ed_a ne_ed_ob ne_ed_sb hov hel hk208
      show own_Gl _ _ _ _ _ _ _ (T208.setTop (mkF m 14 #[.val (.ref a), .val (.int x), .val (.ref b1), .val (.int ix)] []))
      refine own_st (fun _ k => XS.aloadN X208.here hx rfl (hb hby own_d7_14) rfl rfl k) ?_
      obtain ⟨T209, X209, e209, st209⟩ := getF X208 hx hZ hown (host := "") (Or.inl (oW hw 12 rfl)) Via.refl e208 fj208_1 (g := (mkF m 15 #[.val (.ref a), .val (.int x), .val (.ref b1), .val (.int ix)] [(.ref a)])) rfl rfl (hb hby own_d7_15)
      refine own_st st209 ?_
      refine own_st (fun _ k => XS.iloadN X209.here hx rfl (hb hby own_d7_18) rfl k) ?_
      obtain ⟨cl210, Ar210, qq210, Ss210, Nn210, Hh210, Gg210⟩ := id fj208_3
      have hin210 : ¬ (ix < 0 ∨ cl210.slots.size ≤ (ix).toNatClampNeg) := inb_of Ss210 hix
      have hat210 : cl210.slots[(ix).toNatClampNeg]? = some (.long (ofs (f ix.toNatClampNeg))) := Hh210.at hin210 (own_fj_get _ _ _ _ (own_natlt hix.1 hix.2))
      refine own_st (X209.laload hx (j := ix) (v := (.long (ofs (f ix.toNatClampNeg)))) (by rw [e209]; exact Ar210.1) (State.isArrayOf_alike hZ.alike Ar210.2.1) Ar210.2.2 hin210 hat210 (g := (mkF m 19 #[.val (.ref a), .val (.int x), .val (.ref b1), .val (.int ix)] [(.int ix), (.ref ob)])) rfl rfl (hb hby own_d7_19)) ?_
      show own_Gl _ _ _ _ _ _ _ (T209.setTop (mkF m 20 #[.val (.ref a), .val (.int x), .val (.ref b1), .val (.int ix)] [(.long (ofs (f ix.toNatClampNeg)))]))
      refine own_st (fun _ k => XS.lconst X209.here hx rfl (hb hby own_d7_20) k) ?_
      refine own_st (fun _ k => XS.lcmp X209.here hx rfl (hb hby own_d7_21) rfl k) ?_
      by_cases hc22 : (ofs (f ix.toNatClampNeg)) = (0 : Int64)
      · have hst : su = tt := by
          rcases Nat.lt_or_eq_of_le hsu with q | q
          · exact absurd ((hof9 _ (hok.le _)).1.mp hc22) (by rw [hiu]; exact htn su q)
          · exact q
        rw [hst] at hlen
        rw [hst] at hel
        refine own_st (fun _ k => XS.ifYes X209.here hx rfl (pc0 := 22) (pc' := 60) rfl (hb hby own_d7_22) rfl ((if0 _ _).trans (teq ((lw_eq _ _).mpr hc22)).1) (by decide) (by decide) k) ?_
        refine own_st (fun _ k => XS.aloadN X209.here hx rfl (hb hby own_d7_60) rfl rfl k) ?_
        show own_Gl _ _ _ _ _ _ _ (T209.setTop (mkF m 61 #[.val (.ref a), .val (.int x), .val (.ref b1), .val (.int ix)] [(.ref b1)]))
        exact own_retA X209 hx hlk hret rfl rfl rfl (hb hby own_d7_61) e209 ⟨b1, (2 : Int32), (own_ds hs x f z.toNatClampNeg (own_fi x z).toNatClampNeg tt), rfl, N208, Kj208, fj208_5, fj208_8, (by rw [hlen]; rfl), (own_ds_nodup hok hs x _ tt (Nat.le_of_lt htZ) htn), (own_ds_mem hok hs x _ tt (fun j e => by unfold own_q; rw [e]) ht0 htn), (by rw [hlen]; decide), (fun i hi => ⟨ed, ke, rf, fj208_7, by rw [hlen]; exact fj208_10, hel⟩)⟩ (by decide) (by decide)
      · have hlt : su + 1 ≤ tt := by
          rcases Nat.lt_or_eq_of_le hsu with q | q
          · exact q
          · exact absurd ((hof9 _ (hok.le _)).1.mpr (by rw [hiu, q]; exact ht0)) hc22
        refine own_st (fun _ k => XS.ifNo X209.here hx rfl (hb hby own_d7_22) rfl ((if0 _ _).trans (feq (mt (lw_eq _ _).mp hc22)).1) k) ?_
        refine own_st (fun _ k => XS.aloadN X209.here hx rfl (hb hby own_d7_25) rfl rfl k) ?_
        show own_Gl _ _ _ _ _ _ _ (T209.setTop (mkF m 26 #[.val (.ref a), .val (.int x), .val (.ref b1), .val (.int ix)] [(.ref a)]))
        obtain ⟨T211, X211, e211, st211⟩ := getF X209 hx hZ hown (host := "") (Or.inl (oW hw 15 rfl)) Via.refl e209 fj208_2 (g := (mkF m 26 #[.val (.ref a), .val (.int x), .val (.ref b1), .val (.int ix)] [(.ref a)])) rfl rfl (hb hby own_d7_26)
        refine own_st st211 ?_
        refine own_st (fun _ k => XS.iloadN X211.here hx rfl (hb hby own_d7_29) rfl k) ?_
        obtain ⟨cl212, Ar212, qq212, Ss212, Nn212, Hh212, Gg212⟩ := id fj208_4
        have hin212 : ¬ (ix < 0 ∨ cl212.slots.size ≤ (ix).toNatClampNeg) := inb_of Ss212 hix
        have hat212 : cl212.slots[(ix).toNatClampNeg]? = some (.int (hs (f ix.toNatClampNeg))) := Hh212.at hin212 (own_fl_get _ _ _ _ (own_natlt hix.1 hix.2))
        refine own_st (X211.iaload hx (j := ix) (v := (.int (hs (f ix.toNatClampNeg)))) (by rw [e211]; exact Ar212.1) (State.isArrayOf_alike hZ.alike Ar212.2.1) Ar212.2.2 hin212 hat212 (g := (mkF m 30 #[.val (.ref a), .val (.int x), .val (.ref b1), .val (.int ix)] [(.int ix), (.ref sb)])) rfl rfl (hb hby own_d7_30)) ?_
        refine own_st (fun _ k => XS.iloadN X211.here hx rfl (hb hby own_d7_31) rfl k) ?_
        show own_Gl _ _ _ _ _ _ _ (T211.setTop (mkF m 32 #[.val (.ref a), .val (.int x), .val (.ref b1), .val (.int ix)] [(.int x), (.int (hs (f ix.toNatClampNeg)))]))
        by_cases hc32 : (hs (f ix.toNatClampNeg)) = x
        · have hyn : hs (f (((own_fi x z).toNatClampNeg + su) % z.toNatClampNeg)) = x := by rw [← hiu]; exact hc32
          have hl1 := own_ds_len hok hs x (own_fi x z).toNatClampNeg (su + 1) (by omega) (fun u hu => htn u (by omega))
          rw [own_ds_yes _ _ _ _ _ _ hyn, List.length_append, hlen, List.length_singleton] at hl1
          refine own_st (fun _ k => XS.icmpNo X211.here hx rfl (hb hby own_d7_32) rfl (teq hc32).2 k) ?_
          refine own_st (fun _ k => XS.aloadN X211.here hx rfl (hb hby own_d7_35) rfl rfl k) ?_
          refine own_st (fun _ k => XS.aloadN X211.here hx rfl (hb hby own_d7_36) rfl rfl k) ?_
          obtain ⟨T213, X213, e213, st213⟩ := getF X211 hx hZ hown (host := "") (Or.inl (oW hw 12 rfl)) Via.refl e211 fj208_1 (g := (mkF m 37 #[.val (.ref a), .val (.int x), .val (.ref b1), .val (.int ix)] [(.ref a), (.ref b1)])) rfl rfl (hb hby own_d7_37)
          refine own_st st213 ?_
          show own_Gl _ _ _ _ _ _ _ (T213.setTop (mkF m 40 #[.val (.ref a), .val (.int x), .val (.ref b1), .val (.int ix)] [(.ref ob), (.ref b1)]))
          refine own_st (fun _ k => XS.iloadN X213.here hx rfl (hb hby own_d7_40) rfl k) ?_
          obtain ⟨cl214, Ar214, qq214, Ss214, Nn214, Hh214, Gg214⟩ := id fj208_3
          have hin214 : ¬ (ix < 0 ∨ cl214.slots.size ≤ (ix).toNatClampNeg) := inb_of Ss214 hix
          have hat214 : cl214.slots[(ix).toNatClampNeg]? = some (.long (ofs (f ix.toNatClampNeg))) := Hh214.at hin214 (own_fj_get _ _ _ _ (own_natlt hix.1 hix.2))
          refine own_st (X213.laload hx (j := ix) (v := (.long (ofs (f ix.toNatClampNeg)))) (by rw [e213]; exact Ar214.1) (State.isArrayOf_alike hZ.alike Ar214.2.1) Ar214.2.2 hin214 hat214 (g := (mkF m 41 #[.val (.ref a), .val (.int x), .val (.ref b1), .val (.int ix)] [(.int ix), (.ref ob), (.ref b1)])) rfl rfl (hb hby own_d7_41)) ?_
          obtain ⟨_, _, ⟨T215, L215, k215, n215⟩, -, X215, ⟨Lc215, hQ215, l215, y215, z215⟩, st215⟩ := Jvm.LawKit.callS X213 hx (y := oM8) hown (mvT hZ (oW hw 94 rfl)) (mvT hZ (oW hw 95 rfl)) (mvT hZ (oW hw 96 rfl)) (mvT hZ (oW hw 97 rfl)) (by decide) (backOf (W := 1) (own_valueOf l Z a0 hw [] (ofs (f ix.toNatClampNeg)) ca ccl h208 n0 Zs208 (S_cache.ext fj208_9.2) (hcaZ.ext fj208_9.2) hcs (fun j q1 q2 => (hcacheZ j q1 q2).imp fun r q => ⟨q.1, q.2.1.ext fj208_9.2, q.2.2.ext fj208_9.2⟩)) hZ (oW hw 97 rfl) (oW hw 96 rfl) (by decide) (by decide)) (g := (mkF m 42 #[.val (.ref a), .val (.int x), .val (.ref b1), .val (.int ix)] [(.long (ofs (f ix.toNatClampNeg))), (.ref b1)])) rfl (by rw [hml]; rfl) (argsL := [(.long (ofs (f ix.toNatClampNeg)))]) (rest := [(.ref b1)]) (lenOf own_pd940381112 rfl) rfl (by show 2 * 0 + _ ≤ _; exact Nat.le_of_eq rfl) (hb hby own_d7_42) (fun _ _ => ⟨rfl, e213, (by decide : 4 + 1 ≤ 11), (by decide : 15 + 1 ≤ 22)⟩)
          dsimp only [Pt.U, Pt.locs, Pt.cells, Pt.slots] at X215 l215 y215 z215 st215 hQ215
          subst l215 y215 z215
          obtain ⟨hh215, eh0215⟩ : ∃ z, T215.heap = z := ⟨_, rfl⟩
          rw [eh0215] at hQ215
          obtain ⟨r_215, rfl, Nq215, Kq215, P215_0, P215_1⟩ := hQ215
          have N215 := Fr.app N208 Nq215
          refine own_st st215 ?_
          have Zs216 : n0 ≤ hh215.size := Nat.le_trans Zs208 Kq215.1
          have f217 := (fj208_5.keep Kq215)
          have ne_r_li : r_215 ≠ b1 := own_exne P215_0 f217 (by decide)
          have f218 := (fj208_10.keep Kq215 nin0)
          have ne_r_ed : r_215 ≠ ed := Exa.neArv P215_0 f218 (oW hw 101 rfl)
          have hel0 := own_He_keep hel Kq215 (fun _ _ => nin0)
          have f220 := (fj208_6.keep Kq215 nin0)
          have f221 := (fj208_7.keep Kq215 nin0)
          have f222 := (fj208_8.keep Kq215 nin0)
          have f223 := (fj208_0.keep Kq215)
          have f224 := (fj208_3.keep Kq215 nin0)
          have f225 := (fj208_4.keep Kq215 nin0)
          obtain ⟨cq219, kq219, q219a, q219b, q219c⟩ := isOf hZ eh0215 f217
          obtain ⟨_, _, ⟨T219, L219, k219, n219⟩, -, X219, ⟨Lc219, hQ219, l219, y219, z219⟩, st219⟩ := X215.interfaceBack hx (xi := oM18) (y := oM16) hown (mvT hZ (oW hw 115 rfl)) (mvT hZ (oW hw 116 rfl)) (mvT hZ (oW hw 117 rfl)) (mvT hZ (oW hw 118 rfl)) (mvT hZ (oW hw 119 rfl)) (mvT hZ (oW hw 120 rfl)) (mvT hZ (oW hw 121 rfl)) (mvT hZ (oW hw 76 rfl)) (by decide) (backOf (W := 0) (own_add1m l Z a0 hw [] b1 r_215 ed ke mc (2 : Int32) 2 rf hh215 n0 Zs216 f217 f220 f221 f222 g_b1 g_ed (Ne.symm ne_ed_li) P215_0 f218 hov rfl (by decide)) hZ (oW hw 122 rfl) (oW hw 44 rfl) (by decide) (by decide)) q219a q219b q219c (g := (mkF m 45 #[.val (.ref a), .val (.int x), .val (.ref b1), .val (.int ix)] [(.ref r_215), (.ref b1)])) rfl (by rw [hml]; rfl) (Steps.refl _) (argsL := [(.ref r_215)]) (rest := []) (lenOf own_pd963338152 rfl) rfl (by show 2 * 0 + _ ≤ _; exact Nat.le_of_eq rfl) (hb hby own_d7_45) (fun _ _ => ⟨rfl, eh0215, (by decide : 5 + 0 ≤ 11), (by decide : 16 + 0 ≤ 22)⟩)
          dsimp only [Pt.U, Pt.locs, Pt.cells, Pt.slots] at X219 l219 y219 z219 st219 hQ219
          subst l219 y219 z219
          obtain ⟨hh219, eh0219⟩ : ∃ z, T219.heap = z := ⟨_, rfl⟩
          rw [eh0219] at hQ219
          obtain ⟨rfl, Nq219, Kq219, P219_0, P219_1, P219_2, P219_3⟩ := hQ219
          have N219 := Fr.app N215 Nq219
          refine own_tr st219 ?_
          have Zs226 : n0 ≤ hh219.size := Nat.le_trans Zs216 Kq219.1
          have f227 := (P215_0.keep Kq219)
          have f228 := (P215_1.keep Kq219 (ninS ne_r_li (ninS ne_r_ed nin0)))
          have hel1 := own_He_keep hel0 Kq219 (fun i hi => ninS (own_exne (hel0 i hi).1 f217 (by decide)) (ninS (Exa.neArv (hel0 i hi).1 f218 (oW hw 101 rfl)) nin0))
          have hel2 := own_He_add hel1 hlen f227 f228
          rw [hiu] at hel2
          show own_Gl _ _ _ _ _ _ _ (T219.setTop (mkF m 50 #[.val (.ref a), .val (.int x), .val (.ref b1), .val (.int ix)] [(.int 1)]))
          refine own_st (fun _ k => XS.pop X219.here hx rfl (hb hby own_d7_50) rfl rfl k) ?_
          refine own_st (fun _ k => XS.aloadN X219.here hx rfl (hb hby own_d7_51) rfl rfl k) ?_
          refine own_st (fun _ k => XS.iloadN X219.here hx rfl (hb hby own_d7_52) rfl k) ?_
          have f230 := ((fj208_1.keep Kq215 nin0).keep Kq219 (ninS ne_a_b1 (ninS (Ne.symm ne_ed_a) nin0)))
          have f231 := (f224.keep Kq219 (ninS ne_ob_b1 (ninS (Ne.symm ne_ed_ob) nin0)))
          have f232 := (f223.keep Kq219)
          have f233 := (f225.keep Kq219 (ninS ne_sb_b1 (ninS (Ne.symm ne_ed_sb) nin0)))
          have f234 := (f217.keep Kq219)
          obtain ⟨cq229, q229, qq229⟩ := f232.cell
          obtain ⟨_, _, ⟨T229, L229, k229, n229⟩, -, X229, ⟨Lc229, hQ229, l229, y229, z229⟩, st229⟩ := X219.privateBack hx (y := oM2) hown (mvT hZ (oW hw 84 rfl)) (mvT hZ (oW hw 85 rfl)) (own_selpriv hZ (oW hw 3 rfl) (oW hw 86 rfl) (oW hw 85 rfl) (by decide)) (Cond.privateMethod_at (mvP hZ (oW hw 86 rfl) (args := #[]))) (mvT hZ (oW hw 87 rfl)) (by decide) (backOf (W := 0) (own_next l Z a0 hw [] a ix ob ko z (own_fj z.toNatClampNeg (fun p => ofs (f p))) hh219 n0 Zs226 f230 f231 hz) hZ (oW hw 87 rfl) (oW hw 4 rfl) (by decide) (by decide)) (g := (mkF m 53 #[.val (.ref a), .val (.int x), .val (.ref b1), .val (.int ix)] [(.int ix), (.ref a)])) rfl (by rw [hml]; rfl) (Steps.refl _) (a := a) (by rw [eh0219]; exact q229) qq229 (argsL := [(.int ix)]) (rest := []) (lenOf own_pd91181837 rfl) rfl (by show 2 * 0 + _ ≤ _; exact Nat.le_of_eq rfl) (hb hby own_d7_53) (fun _ _ => ⟨rfl, eh0219, (by decide : 5 + 0 ≤ 11), (by decide : 16 + 0 ≤ 22)⟩)
          dsimp only [Pt.U, Pt.locs, Pt.cells, Pt.slots] at X229 l229 y229 z229 st229 hQ229
          subst l229 y229 z229
          obtain ⟨hh229, eh0229⟩ : ∃ z, T229.heap = z := ⟨_, rfl⟩
          rw [eh0229] at hQ229
          obtain ⟨rfl, Nq229, eh229⟩ := hQ229
          have N229 := Fr.app N219 Nq229
          refine own_tr st229 ?_
          have e229 : T229.heap = hh219 := eh0229.trans eh229
          show own_Gl _ _ _ _ _ _ _ (T229.setTop (mkF m 56 #[.val (.ref a), .val (.int x), .val (.ref b1), .val (.int ix)] [(.int (own_nxt ix z))]))
          refine own_st (fun _ k => XS.istoreN X229.here hx rfl (hb hby own_d7_56) rfl (l' := #[.val (.ref a), .val (.int x), .val (.ref b1), .val (.int (own_nxt ix z))]) rfl k) ?_
          refine own_st (fun _ k => XS.goto X229.here hx rfl (pc0 := 57) (pc' := 14) rfl (hb hby own_d7_57) (by decide) (by decide) k) ?_
          have K235 : Keep h0 hh219 [] := ((Kj208.trans Kq215 all0).trans Kq219 (allS (Or.inr gh_b1) (allS (Or.inr gh_ed) all0)))
          have f236 := ((fj208_2.keep Kq215 nin0).keep Kq219 (ninS ne_a_b1 (ninS (Ne.symm ne_ed_a) nin0)))
          have f237 := ((fj208_9.keep Kq215 all0).keep Kq219 (allS g_b1 (allS g_ed all0)))
          show own_Gl _ _ _ _ _ _ _ (T229.setTop (mkF m 14 #[.val (.ref a), .val (.int x), .val (.ref b1), .val (.int (own_nxt ix z))] []))
          exact J14_177 _ T229 _ N229 X229 _ e229 ((su + 1)) ((own_nxt ix z)) ((mc + (1 : Int32))) (ed) (ke) ((fun i => if i = 2 then r_215 else rf i)) Zs226 K235 f232 f230 f236 f231 f233 f234 P219_0 P219_1 P219_2 f237 P219_3 (own_nxt_in ix z hz hix).1 (by rw [(own_nxt_in ix z hz hix).2, hiu, Nat.mod_add_mod, Nat.add_assoc]) hlt (by rw [own_ds_yes _ _ _ _ _ _ hyn, List.length_append, hlen]; rfl) g_ed gh_ed ne_ed_li ne_ed_a ne_ed_ob ne_ed_sb hov (by rw [own_ds_yes _ _ _ _ _ _ hyn]; exact hel2) rfl
        · have hyn : ¬ hs (f (((own_fi x z).toNatClampNeg + su) % z.toNatClampNeg)) = x := by rw [← hiu]; exact hc32
          refine own_st (fun _ k => XS.icmpYes X211.here hx rfl (pc0 := 32) (pc' := 51) rfl (hb hby own_d7_32) rfl (feq hc32).2 (by decide) (by decide) k) ?_
          refine own_st (fun _ k => XS.aloadN X211.here hx rfl (hb hby own_d7_51) rfl rfl k) ?_
          refine own_st (fun _ k => XS.iloadN X211.here hx rfl (hb hby own_d7_52) rfl k) ?_
          obtain ⟨cq238, q238, qq238⟩ := fj208_0.cell
          obtain ⟨_, _, ⟨T238, L238, k238, n238⟩, -, X238, ⟨Lc238, hQ238, l238, y238, z238⟩, st238⟩ := X211.privateBack hx (y := oM2) hown (mvT hZ (oW hw 84 rfl)) (mvT hZ (oW hw 85 rfl)) (own_selpriv hZ (oW hw 3 rfl) (oW hw 86 rfl) (oW hw 85 rfl) (by decide)) (Cond.privateMethod_at (mvP hZ (oW hw 86 rfl) (args := #[]))) (mvT hZ (oW hw 87 rfl)) (by decide) (backOf (W := 0) (own_next l Z a0 hw [] a ix ob ko z (own_fj z.toNatClampNeg (fun p => ofs (f p))) h208 n0 Zs208 fj208_1 fj208_3 hz) hZ (oW hw 87 rfl) (oW hw 4 rfl) (by decide) (by decide)) (g := (mkF m 53 #[.val (.ref a), .val (.int x), .val (.ref b1), .val (.int ix)] [(.int ix), (.ref a)])) rfl (by rw [hml]; rfl) (Steps.refl _) (a := a) (by rw [e211]; exact q238) qq238 (argsL := [(.int ix)]) (rest := []) (lenOf own_pd91181837 rfl) rfl (by show 2 * 0 + _ ≤ _; exact Nat.le_of_eq rfl) (hb hby own_d7_53) (fun _ _ => ⟨rfl, e211, (by decide : 4 + 0 ≤ 11), (by decide : 15 + 0 ≤ 22)⟩)
          dsimp only [Pt.U, Pt.locs, Pt.cells, Pt.slots] at X238 l238 y238 z238 st238 hQ238
          subst l238 y238 z238
          obtain ⟨hh238, eh0238⟩ : ∃ z, T238.heap = z := ⟨_, rfl⟩
          rw [eh0238] at hQ238
          obtain ⟨rfl, Nq238, eh238⟩ := hQ238
          have N238 := Fr.app N208 Nq238
          refine own_tr st238 ?_
          have e238 : T238.heap = h208 := eh0238.trans eh238
          show own_Gl _ _ _ _ _ _ _ (T238.setTop (mkF m 56 #[.val (.ref a), .val (.int x), .val (.ref b1), .val (.int ix)] [(.int (own_nxt ix z))]))
          refine own_st (fun _ k => XS.istoreN X238.here hx rfl (hb hby own_d7_56) rfl (l' := #[.val (.ref a), .val (.int x), .val (.ref b1), .val (.int (own_nxt ix z))]) rfl k) ?_
          refine own_st (fun _ k => XS.goto X238.here hx rfl (pc0 := 57) (pc' := 14) rfl (hb hby own_d7_57) (by decide) (by decide) k) ?_
          show own_Gl _ _ _ _ _ _ _ (T238.setTop (mkF m 14 #[.val (.ref a), .val (.int x), .val (.ref b1), .val (.int (own_nxt ix z))] []))
          exact ih208 _ (by omega) T238 _ N238 X238 _ e238 ((su + 1)) ((own_nxt ix z)) (mc) (ed) (ke) (rf) Zs208 Kj208 fj208_0 fj208_1 fj208_2 fj208_3 fj208_4 fj208_5 fj208_6 fj208_7 fj208_8 fj208_9 fj208_10 (own_nxt_in ix z hz hix).1 (by rw [(own_nxt_in ix z hz hix).2, hiu, Nat.mod_add_mod, Nat.add_assoc]) hlt (by rw [own_ds_no _ _ _ _ _ _ hyn]; exact hlen) g_ed gh_ed ne_ed_li ne_ed_a ne_ed_ob ne_ed_sb hov (by rw [own_ds_no _ _ _ _ _ _ hyn]; exact hel) rfl
  have J14_239 : ∀ (k239 : Nat) (T239 : State) (LL239 : List Loc) (N239 : Fr n0 LL239) (X239 : Stand p l e ⟨5, 11, 22, 69⟩ s m #[(.ref a), (.int x)] below meth c T239 LL239 3 14) (h239 : Heap) (e239 : T239.heap = h239) (su : Nat) (ix : Int32) (mc : Int32) (ed : Addr) (ke : ClassId) (rf : Nat → Addr) (Zs239 : n0 ≤ h239.size) (Kj239 : Keep h0 h239 []) (fj239_0 : Exa Z h239 a "com/example/assayline/assayline/core/MessageIndex") (fj239_1 : Fld Z h239 a "com/example/assayline/assayline/core/MessageIndex" "offsets" "[J" (.ref ob)) (fj239_2 : Fld Z h239 a "com/example/assayline/assayline/core/MessageIndex" "hashes" "[I" (.ref sb)) (fj239_3 : Arv Z h239 ob ko .long z (own_fj z.toNatClampNeg (fun p => ofs (f p))) (.long (0 : Int64))) (fj239_4 : Arv Z h239 sb kh .int z (own_fl z.toNatClampNeg (fun p => hs (f p))) (.int 0)) (fj239_5 : Exa Z h239 b1 "java/util/ArrayList") (fj239_6 : Fld Z h239 b1 "java/util/AbstractList" "modCount" "I" (.int mc)) (fj239_7 : Fld Z h239 b1 "java/util/ArrayList" "elementData" "[Ljava/lang/Object;" (.ref ed)) (fj239_8 : Fld Z h239 b1 "java/util/ArrayList" "size" "I" (.int 1)) (fj239_9 : Old Z n0 h239) (fj239_10 : Arv Z h239 ed ke (.object "java/lang/Object") (10 : Int32) (own_rl 1 rf) .null) (hix : ¬ ix < 0 ∧ ix < z) (hiu : ix.toNatClampNeg = ((own_fi x z).toNatClampNeg + su) % z.toNatClampNeg) (hsu : su ≤ tt) (hlen : (own_ds hs x f z.toNatClampNeg (own_fi x z).toNatClampNeg su).length = 1) (g_ed : n0 ≤ ed) (gh_ed : h0.size ≤ ed) (ne_ed_li : ed ≠ b1) (ne_ed_a : ed ≠ a) (ne_ed_ob : ed ≠ ob) (ne_ed_sb : ed ≠ sb) (hov : Ovr Z ke "java/lang/Object") (hel : own_He Z h239 ofs (own_ds hs x f z.toNatClampNeg (own_fi x z).toNatClampNeg su) rf) (hk239 : tt - su = k239), own_Gl p e below s (own_Q_own_off Z a x ob sb ko kh z f ofs hs SS cn de kd ca ccl h0 n0) 11 22 (T239.setTop (mkF m 14 #[.val (.ref a), .val (.int x), .val (.ref b1), .val (.int ix)] [])) := by
    intro k239
    induction k239 using Nat.strongRecOn with
    | _ k239 ih239 =>
      intro T239 LL239 N239 X239 h239 e239 su ix mc ed ke rf Zs239 Kj239 fj239_0 fj239_1 fj239_2 fj239_3 fj239_4 fj239_5 fj239_6 fj239_7 fj239_8 fj239_9 fj239_10 hix hiu hsu hlen g_ed gh_ed ne_ed_li ne_ed_a ne_ed_ob ne_ed_sb hov hel hk239
      show own_Gl _ _ _ _ _ _ _ (T239.setTop (mkF m 14 #[.val (.ref a), .val (.int x), .val (.ref b1), .val (.int ix)] []))
      refine own_st (fun _ k => XS.aloadN X239.here hx rfl (hb hby own_d7_14) rfl rfl k) ?_
      obtain ⟨T240, X240, e240, st240⟩ := getF X239 hx hZ hown (host := "") (Or.inl (oW hw 12 rfl)) Via.refl e239 fj239_1 (g := (mkF m 15 #[.val (.ref a), .val (.int x), .val (.ref b1), .val (.int ix)] [(.ref a)])) rfl rfl (hb hby own_d7_15)
      refine own_st st240 ?_
      refine own_st (fun _ k => XS.iloadN X240.here hx rfl (hb hby own_d7_18) rfl k) ?_
      obtain ⟨cl241, Ar241, qq241, Ss241, Nn241, Hh241, Gg241⟩ := id fj239_3
      have hin241 : ¬ (ix < 0 ∨ cl241.slots.size ≤ (ix).toNatClampNeg) := inb_of Ss241 hix
      have hat241 : cl241.slots[(ix).toNatClampNeg]? = some (.long (ofs (f ix.toNatClampNeg))) := Hh241.at hin241 (own_fj_get _ _ _ _ (own_natlt hix.1 hix.2))
      refine own_st (X240.laload hx (j := ix) (v := (.long (ofs (f ix.toNatClampNeg)))) (by rw [e240]; exact Ar241.1) (State.isArrayOf_alike hZ.alike Ar241.2.1) Ar241.2.2 hin241 hat241 (g := (mkF m 19 #[.val (.ref a), .val (.int x), .val (.ref b1), .val (.int ix)] [(.int ix), (.ref ob)])) rfl rfl (hb hby own_d7_19)) ?_
      show own_Gl _ _ _ _ _ _ _ (T240.setTop (mkF m 20 #[.val (.ref a), .val (.int x), .val (.ref b1), .val (.int ix)] [(.long (ofs (f ix.toNatClampNeg)))]))
      refine own_st (fun _ k => XS.lconst X240.here hx rfl (hb hby own_d7_20) k) ?_
      refine own_st (fun _ k => XS.lcmp X240.here hx rfl (hb hby own_d7_21) rfl k) ?_
      by_cases hc22 : (ofs (f ix.toNatClampNeg)) = (0 : Int64)
      · have hst : su = tt := by
          rcases Nat.lt_or_eq_of_le hsu with q | q
          · exact absurd ((hof9 _ (hok.le _)).1.mp hc22) (by rw [hiu]; exact htn su q)
          · exact q
        rw [hst] at hlen
        rw [hst] at hel
        refine own_st (fun _ k => XS.ifYes X240.here hx rfl (pc0 := 22) (pc' := 60) rfl (hb hby own_d7_22) rfl ((if0 _ _).trans (teq ((lw_eq _ _).mpr hc22)).1) (by decide) (by decide) k) ?_
        refine own_st (fun _ k => XS.aloadN X240.here hx rfl (hb hby own_d7_60) rfl rfl k) ?_
        show own_Gl _ _ _ _ _ _ _ (T240.setTop (mkF m 61 #[.val (.ref a), .val (.int x), .val (.ref b1), .val (.int ix)] [(.ref b1)]))
        exact own_retA X240 hx hlk hret rfl rfl rfl (hb hby own_d7_61) e240 ⟨b1, (1 : Int32), (own_ds hs x f z.toNatClampNeg (own_fi x z).toNatClampNeg tt), rfl, N239, Kj239, fj239_5, fj239_8, (by rw [hlen]; rfl), (own_ds_nodup hok hs x _ tt (Nat.le_of_lt htZ) htn), (own_ds_mem hok hs x _ tt (fun j e => by unfold own_q; rw [e]) ht0 htn), (by rw [hlen]; decide), (fun i hi => ⟨ed, ke, rf, fj239_7, by rw [hlen]; exact fj239_10, hel⟩)⟩ (by decide) (by decide)
      · have hlt : su + 1 ≤ tt := by
          rcases Nat.lt_or_eq_of_le hsu with q | q
          · exact q
          · exact absurd ((hof9 _ (hok.le _)).1.mpr (by rw [hiu, q]; exact ht0)) hc22
        refine own_st (fun _ k => XS.ifNo X240.here hx rfl (hb hby own_d7_22) rfl ((if0 _ _).trans (feq (mt (lw_eq _ _).mp hc22)).1) k) ?_
        refine own_st (fun _ k => XS.aloadN X240.here hx rfl (hb hby own_d7_25) rfl rfl k) ?_
        show own_Gl _ _ _ _ _ _ _ (T240.setTop (mkF m 26 #[.val (.ref a), .val (.int x), .val (.ref b1), .val (.int ix)] [(.ref a)]))
        obtain ⟨T242, X242, e242, st242⟩ := getF X240 hx hZ hown (host := "") (Or.inl (oW hw 15 rfl)) Via.refl e240 fj239_2 (g := (mkF m 26 #[.val (.ref a), .val (.int x), .val (.ref b1), .val (.int ix)] [(.ref a)])) rfl rfl (hb hby own_d7_26)
        refine own_st st242 ?_
        refine own_st (fun _ k => XS.iloadN X242.here hx rfl (hb hby own_d7_29) rfl k) ?_
        obtain ⟨cl243, Ar243, qq243, Ss243, Nn243, Hh243, Gg243⟩ := id fj239_4
        have hin243 : ¬ (ix < 0 ∨ cl243.slots.size ≤ (ix).toNatClampNeg) := inb_of Ss243 hix
        have hat243 : cl243.slots[(ix).toNatClampNeg]? = some (.int (hs (f ix.toNatClampNeg))) := Hh243.at hin243 (own_fl_get _ _ _ _ (own_natlt hix.1 hix.2))
        refine own_st (X242.iaload hx (j := ix) (v := (.int (hs (f ix.toNatClampNeg)))) (by rw [e242]; exact Ar243.1) (State.isArrayOf_alike hZ.alike Ar243.2.1) Ar243.2.2 hin243 hat243 (g := (mkF m 30 #[.val (.ref a), .val (.int x), .val (.ref b1), .val (.int ix)] [(.int ix), (.ref sb)])) rfl rfl (hb hby own_d7_30)) ?_
        refine own_st (fun _ k => XS.iloadN X242.here hx rfl (hb hby own_d7_31) rfl k) ?_
        show own_Gl _ _ _ _ _ _ _ (T242.setTop (mkF m 32 #[.val (.ref a), .val (.int x), .val (.ref b1), .val (.int ix)] [(.int x), (.int (hs (f ix.toNatClampNeg)))]))
        by_cases hc32 : (hs (f ix.toNatClampNeg)) = x
        · have hyn : hs (f (((own_fi x z).toNatClampNeg + su) % z.toNatClampNeg)) = x := by rw [← hiu]; exact hc32
          have hl1 := own_ds_len hok hs x (own_fi x z).toNatClampNeg (su + 1) (by omega) (fun u hu => htn u (by omega))
          rw [own_ds_yes _ _ _ _ _ _ hyn, List.length_append, hlen, List.length_singleton] at hl1
          refine own_st (fun _ k => XS.icmpNo X242.here hx rfl (hb hby own_d7_32) rfl (teq hc32).2 k) ?_
          refine own_st (fun _ k => XS.aloadN X242.here hx rfl (hb hby own_d7_35) rfl rfl k) ?_
          refine own_st (fun _ k => XS.aloadN X242.here hx rfl (hb hby own_d7_36) rfl rfl k) ?_
          obtain ⟨T244, X244, e244, st244⟩ := getF X242 hx hZ hown (host := "") (Or.inl (oW hw 12 rfl)) Via.refl e242 fj239_1 (g := (mkF m 37 #[.val (.ref a), .val (.int x), .val (.ref b1), .val (.int ix)] [(.ref a), (.ref b1)])) rfl rfl (hb hby own_d7_37)
          refine own_st st244 ?_
          show own_Gl _ _ _ _ _ _ _ (T244.setTop (mkF m 40 #[.val (.ref a), .val (.int x), .val (.ref b1), .val (.int ix)] [(.ref ob), (.ref b1)]))
          refine own_st (fun _ k => XS.iloadN X244.here hx rfl (hb hby own_d7_40) rfl k) ?_
          obtain ⟨cl245, Ar245, qq245, Ss245, Nn245, Hh245, Gg245⟩ := id fj239_3
          have hin245 : ¬ (ix < 0 ∨ cl245.slots.size ≤ (ix).toNatClampNeg) := inb_of Ss245 hix
          have hat245 : cl245.slots[(ix).toNatClampNeg]? = some (.long (ofs (f ix.toNatClampNeg))) := Hh245.at hin245 (own_fj_get _ _ _ _ (own_natlt hix.1 hix.2))
          refine own_st (X244.laload hx (j := ix) (v := (.long (ofs (f ix.toNatClampNeg)))) (by rw [e244]; exact Ar245.1) (State.isArrayOf_alike hZ.alike Ar245.2.1) Ar245.2.2 hin245 hat245 (g := (mkF m 41 #[.val (.ref a), .val (.int x), .val (.ref b1), .val (.int ix)] [(.int ix), (.ref ob), (.ref b1)])) rfl rfl (hb hby own_d7_41)) ?_
          obtain ⟨_, _, ⟨T246, L246, k246, n246⟩, -, X246, ⟨Lc246, hQ246, l246, y246, z246⟩, st246⟩ := Jvm.LawKit.callS X244 hx (y := oM8) hown (mvT hZ (oW hw 94 rfl)) (mvT hZ (oW hw 95 rfl)) (mvT hZ (oW hw 96 rfl)) (mvT hZ (oW hw 97 rfl)) (by decide) (backOf (W := 1) (own_valueOf l Z a0 hw [] (ofs (f ix.toNatClampNeg)) ca ccl h239 n0 Zs239 (S_cache.ext fj239_9.2) (hcaZ.ext fj239_9.2) hcs (fun j q1 q2 => (hcacheZ j q1 q2).imp fun r q => ⟨q.1, q.2.1.ext fj239_9.2, q.2.2.ext fj239_9.2⟩)) hZ (oW hw 97 rfl) (oW hw 96 rfl) (by decide) (by decide)) (g := (mkF m 42 #[.val (.ref a), .val (.int x), .val (.ref b1), .val (.int ix)] [(.long (ofs (f ix.toNatClampNeg))), (.ref b1)])) rfl (by rw [hml]; rfl) (argsL := [(.long (ofs (f ix.toNatClampNeg)))]) (rest := [(.ref b1)]) (lenOf own_pd940381112 rfl) rfl (by show 2 * 0 + _ ≤ _; exact Nat.le_of_eq rfl) (hb hby own_d7_42) (fun _ _ => ⟨rfl, e244, (by decide : 3 + 1 ≤ 11), (by decide : 14 + 1 ≤ 22)⟩)
          dsimp only [Pt.U, Pt.locs, Pt.cells, Pt.slots] at X246 l246 y246 z246 st246 hQ246
          subst l246 y246 z246
          obtain ⟨hh246, eh0246⟩ : ∃ z, T246.heap = z := ⟨_, rfl⟩
          rw [eh0246] at hQ246
          obtain ⟨r_246, rfl, Nq246, Kq246, P246_0, P246_1⟩ := hQ246
          have N246 := Fr.app N239 Nq246
          refine own_st st246 ?_
          have Zs247 : n0 ≤ hh246.size := Nat.le_trans Zs239 Kq246.1
          have f248 := (fj239_5.keep Kq246)
          have ne_r_li : r_246 ≠ b1 := own_exne P246_0 f248 (by decide)
          have f249 := (fj239_10.keep Kq246 nin0)
          have ne_r_ed : r_246 ≠ ed := Exa.neArv P246_0 f249 (oW hw 101 rfl)
          have hel0 := own_He_keep hel Kq246 (fun _ _ => nin0)
          have f251 := (fj239_6.keep Kq246 nin0)
          have f252 := (fj239_7.keep Kq246 nin0)
          have f253 := (fj239_8.keep Kq246 nin0)
          have f254 := (fj239_0.keep Kq246)
          have f255 := (fj239_3.keep Kq246 nin0)
          have f256 := (fj239_4.keep Kq246 nin0)
          obtain ⟨cq250, kq250, q250a, q250b, q250c⟩ := isOf hZ eh0246 f248
          obtain ⟨_, _, ⟨T250, L250, k250, n250⟩, -, X250, ⟨Lc250, hQ250, l250, y250, z250⟩, st250⟩ := X246.interfaceBack hx (xi := oM18) (y := oM16) hown (mvT hZ (oW hw 115 rfl)) (mvT hZ (oW hw 116 rfl)) (mvT hZ (oW hw 117 rfl)) (mvT hZ (oW hw 118 rfl)) (mvT hZ (oW hw 119 rfl)) (mvT hZ (oW hw 120 rfl)) (mvT hZ (oW hw 121 rfl)) (mvT hZ (oW hw 76 rfl)) (by decide) (backOf (W := 0) (own_add1m l Z a0 hw [] b1 r_246 ed ke mc (1 : Int32) 1 rf hh246 n0 Zs247 f248 f251 f252 f253 g_b1 g_ed (Ne.symm ne_ed_li) P246_0 f249 hov rfl (by decide)) hZ (oW hw 122 rfl) (oW hw 44 rfl) (by decide) (by decide)) q250a q250b q250c (g := (mkF m 45 #[.val (.ref a), .val (.int x), .val (.ref b1), .val (.int ix)] [(.ref r_246), (.ref b1)])) rfl (by rw [hml]; rfl) (Steps.refl _) (argsL := [(.ref r_246)]) (rest := []) (lenOf own_pd963338152 rfl) rfl (by show 2 * 0 + _ ≤ _; exact Nat.le_of_eq rfl) (hb hby own_d7_45) (fun _ _ => ⟨rfl, eh0246, (by decide : 4 + 0 ≤ 11), (by decide : 15 + 0 ≤ 22)⟩)
          dsimp only [Pt.U, Pt.locs, Pt.cells, Pt.slots] at X250 l250 y250 z250 st250 hQ250
          subst l250 y250 z250
          obtain ⟨hh250, eh0250⟩ : ∃ z, T250.heap = z := ⟨_, rfl⟩
          rw [eh0250] at hQ250
          obtain ⟨rfl, Nq250, Kq250, P250_0, P250_1, P250_2, P250_3⟩ := hQ250
          have N250 := Fr.app N246 Nq250
          refine own_tr st250 ?_
          have Zs257 : n0 ≤ hh250.size := Nat.le_trans Zs247 Kq250.1
          have f258 := (P246_0.keep Kq250)
          have f259 := (P246_1.keep Kq250 (ninS ne_r_li (ninS ne_r_ed nin0)))
          have hel1 := own_He_keep hel0 Kq250 (fun i hi => ninS (own_exne (hel0 i hi).1 f248 (by decide)) (ninS (Exa.neArv (hel0 i hi).1 f249 (oW hw 101 rfl)) nin0))
          have hel2 := own_He_add hel1 hlen f258 f259
          rw [hiu] at hel2
          show own_Gl _ _ _ _ _ _ _ (T250.setTop (mkF m 50 #[.val (.ref a), .val (.int x), .val (.ref b1), .val (.int ix)] [(.int 1)]))
          refine own_st (fun _ k => XS.pop X250.here hx rfl (hb hby own_d7_50) rfl rfl k) ?_
          refine own_st (fun _ k => XS.aloadN X250.here hx rfl (hb hby own_d7_51) rfl rfl k) ?_
          refine own_st (fun _ k => XS.iloadN X250.here hx rfl (hb hby own_d7_52) rfl k) ?_
          have f261 := ((fj239_1.keep Kq246 nin0).keep Kq250 (ninS ne_a_b1 (ninS (Ne.symm ne_ed_a) nin0)))
          have f262 := (f255.keep Kq250 (ninS ne_ob_b1 (ninS (Ne.symm ne_ed_ob) nin0)))
          have f263 := (f254.keep Kq250)
          have f264 := (f256.keep Kq250 (ninS ne_sb_b1 (ninS (Ne.symm ne_ed_sb) nin0)))
          have f265 := (f248.keep Kq250)
          obtain ⟨cq260, q260, qq260⟩ := f263.cell
          obtain ⟨_, _, ⟨T260, L260, k260, n260⟩, -, X260, ⟨Lc260, hQ260, l260, y260, z260⟩, st260⟩ := X250.privateBack hx (y := oM2) hown (mvT hZ (oW hw 84 rfl)) (mvT hZ (oW hw 85 rfl)) (own_selpriv hZ (oW hw 3 rfl) (oW hw 86 rfl) (oW hw 85 rfl) (by decide)) (Cond.privateMethod_at (mvP hZ (oW hw 86 rfl) (args := #[]))) (mvT hZ (oW hw 87 rfl)) (by decide) (backOf (W := 0) (own_next l Z a0 hw [] a ix ob ko z (own_fj z.toNatClampNeg (fun p => ofs (f p))) hh250 n0 Zs257 f261 f262 hz) hZ (oW hw 87 rfl) (oW hw 4 rfl) (by decide) (by decide)) (g := (mkF m 53 #[.val (.ref a), .val (.int x), .val (.ref b1), .val (.int ix)] [(.int ix), (.ref a)])) rfl (by rw [hml]; rfl) (Steps.refl _) (a := a) (by rw [eh0250]; exact q260) qq260 (argsL := [(.int ix)]) (rest := []) (lenOf own_pd91181837 rfl) rfl (by show 2 * 0 + _ ≤ _; exact Nat.le_of_eq rfl) (hb hby own_d7_53) (fun _ _ => ⟨rfl, eh0250, (by decide : 4 + 0 ≤ 11), (by decide : 15 + 0 ≤ 22)⟩)
          dsimp only [Pt.U, Pt.locs, Pt.cells, Pt.slots] at X260 l260 y260 z260 st260 hQ260
          subst l260 y260 z260
          obtain ⟨hh260, eh0260⟩ : ∃ z, T260.heap = z := ⟨_, rfl⟩
          rw [eh0260] at hQ260
          obtain ⟨rfl, Nq260, eh260⟩ := hQ260
          have N260 := Fr.app N250 Nq260
          refine own_tr st260 ?_
          have e260 : T260.heap = hh250 := eh0260.trans eh260
          show own_Gl _ _ _ _ _ _ _ (T260.setTop (mkF m 56 #[.val (.ref a), .val (.int x), .val (.ref b1), .val (.int ix)] [(.int (own_nxt ix z))]))
          refine own_st (fun _ k => XS.istoreN X260.here hx rfl (hb hby own_d7_56) rfl (l' := #[.val (.ref a), .val (.int x), .val (.ref b1), .val (.int (own_nxt ix z))]) rfl k) ?_
          refine own_st (fun _ k => XS.goto X260.here hx rfl (pc0 := 57) (pc' := 14) rfl (hb hby own_d7_57) (by decide) (by decide) k) ?_
          have K266 : Keep h0 hh250 [] := ((Kj239.trans Kq246 all0).trans Kq250 (allS (Or.inr gh_b1) (allS (Or.inr gh_ed) all0)))
          have f267 := ((fj239_2.keep Kq246 nin0).keep Kq250 (ninS ne_a_b1 (ninS (Ne.symm ne_ed_a) nin0)))
          have f268 := ((fj239_9.keep Kq246 all0).keep Kq250 (allS g_b1 (allS g_ed all0)))
          show own_Gl _ _ _ _ _ _ _ (T260.setTop (mkF m 14 #[.val (.ref a), .val (.int x), .val (.ref b1), .val (.int (own_nxt ix z))] []))
          exact J14_208 _ T260 _ N260 X260 _ e260 ((su + 1)) ((own_nxt ix z)) ((mc + (1 : Int32))) (ed) (ke) ((fun i => if i = 1 then r_246 else rf i)) Zs257 K266 f263 f261 f267 f262 f264 f265 P250_0 P250_1 P250_2 f268 P250_3 (own_nxt_in ix z hz hix).1 (by rw [(own_nxt_in ix z hz hix).2, hiu, Nat.mod_add_mod, Nat.add_assoc]) hlt (by rw [own_ds_yes _ _ _ _ _ _ hyn, List.length_append, hlen]; rfl) g_ed gh_ed ne_ed_li ne_ed_a ne_ed_ob ne_ed_sb hov (by rw [own_ds_yes _ _ _ _ _ _ hyn]; exact hel2) rfl
        · have hyn : ¬ hs (f (((own_fi x z).toNatClampNeg + su) % z.toNatClampNeg)) = x := by rw [← hiu]; exact hc32
          refine own_st (fun _ k => XS.icmpYes X242.here hx rfl (pc0 := 32) (pc' := 51) rfl (hb hby own_d7_32) rfl (feq hc32).2 (by decide) (by decide) k) ?_
          refine own_st (fun _ k => XS.aloadN X242.here hx rfl (hb hby own_d7_51) rfl rfl k) ?_
          refine own_st (fun _ k => XS.iloadN X242.here hx rfl (hb hby own_d7_52) rfl k) ?_
          obtain ⟨cq269, q269, qq269⟩ := fj239_0.cell
          obtain ⟨_, _, ⟨T269, L269, k269, n269⟩, -, X269, ⟨Lc269, hQ269, l269, y269, z269⟩, st269⟩ := X242.privateBack hx (y := oM2) hown (mvT hZ (oW hw 84 rfl)) (mvT hZ (oW hw 85 rfl)) (own_selpriv hZ (oW hw 3 rfl) (oW hw 86 rfl) (oW hw 85 rfl) (by decide)) (Cond.privateMethod_at (mvP hZ (oW hw 86 rfl) (args := #[]))) (mvT hZ (oW hw 87 rfl)) (by decide) (backOf (W := 0) (own_next l Z a0 hw [] a ix ob ko z (own_fj z.toNatClampNeg (fun p => ofs (f p))) h239 n0 Zs239 fj239_1 fj239_3 hz) hZ (oW hw 87 rfl) (oW hw 4 rfl) (by decide) (by decide)) (g := (mkF m 53 #[.val (.ref a), .val (.int x), .val (.ref b1), .val (.int ix)] [(.int ix), (.ref a)])) rfl (by rw [hml]; rfl) (Steps.refl _) (a := a) (by rw [e242]; exact q269) qq269 (argsL := [(.int ix)]) (rest := []) (lenOf own_pd91181837 rfl) rfl (by show 2 * 0 + _ ≤ _; exact Nat.le_of_eq rfl) (hb hby own_d7_53) (fun _ _ => ⟨rfl, e242, (by decide : 3 + 0 ≤ 11), (by decide : 14 + 0 ≤ 22)⟩)
          dsimp only [Pt.U, Pt.locs, Pt.cells, Pt.slots] at X269 l269 y269 z269 st269 hQ269
          subst l269 y269 z269
          obtain ⟨hh269, eh0269⟩ : ∃ z, T269.heap = z := ⟨_, rfl⟩
          rw [eh0269] at hQ269
          obtain ⟨rfl, Nq269, eh269⟩ := hQ269
          have N269 := Fr.app N239 Nq269
          refine own_tr st269 ?_
          have e269 : T269.heap = h239 := eh0269.trans eh269
          show own_Gl _ _ _ _ _ _ _ (T269.setTop (mkF m 56 #[.val (.ref a), .val (.int x), .val (.ref b1), .val (.int ix)] [(.int (own_nxt ix z))]))
          refine own_st (fun _ k => XS.istoreN X269.here hx rfl (hb hby own_d7_56) rfl (l' := #[.val (.ref a), .val (.int x), .val (.ref b1), .val (.int (own_nxt ix z))]) rfl k) ?_
          refine own_st (fun _ k => XS.goto X269.here hx rfl (pc0 := 57) (pc' := 14) rfl (hb hby own_d7_57) (by decide) (by decide) k) ?_
          show own_Gl _ _ _ _ _ _ _ (T269.setTop (mkF m 14 #[.val (.ref a), .val (.int x), .val (.ref b1), .val (.int (own_nxt ix z))] []))
          exact ih239 _ (by omega) T269 _ N269 X269 _ e269 ((su + 1)) ((own_nxt ix z)) (mc) (ed) (ke) (rf) Zs239 Kj239 fj239_0 fj239_1 fj239_2 fj239_3 fj239_4 fj239_5 fj239_6 fj239_7 fj239_8 fj239_9 fj239_10 (own_nxt_in ix z hz hix).1 (by rw [(own_nxt_in ix z hz hix).2, hiu, Nat.mod_add_mod, Nat.add_assoc]) hlt (by rw [own_ds_no _ _ _ _ _ _ hyn]; exact hlen) g_ed gh_ed ne_ed_li ne_ed_a ne_ed_ob ne_ed_sb hov (by rw [own_ds_no _ _ _ _ _ _ hyn]; exact hel) rfl
  have J14_270 : ∀ (k270 : Nat) (T270 : State) (LL270 : List Loc) (N270 : Fr n0 LL270) (X270 : Stand p l e ⟨5, 11, 22, 69⟩ s m #[(.ref a), (.int x)] below meth c T270 LL270 1 3) (h270 : Heap) (e270 : T270.heap = h270) (su : Nat) (ix : Int32) (Zs270 : n0 ≤ h270.size) (Kj270 : Keep h0 h270 []) (fj270_0 : Exa Z h270 a "com/example/assayline/assayline/core/MessageIndex") (fj270_1 : Fld Z h270 a "com/example/assayline/assayline/core/MessageIndex" "offsets" "[J" (.ref ob)) (fj270_2 : Fld Z h270 a "com/example/assayline/assayline/core/MessageIndex" "hashes" "[I" (.ref sb)) (fj270_3 : Arv Z h270 ob ko .long z (own_fj z.toNatClampNeg (fun p => ofs (f p))) (.long (0 : Int64))) (fj270_4 : Arv Z h270 sb kh .int z (own_fl z.toNatClampNeg (fun p => hs (f p))) (.int 0)) (fj270_5 : Exa Z h270 b1 "java/util/ArrayList") (fj270_6 : Fld Z h270 b1 "java/util/AbstractList" "modCount" "I" (.int 0)) (fj270_7 : Fld Z h270 b1 "java/util/ArrayList" "elementData" "[Ljava/lang/Object;" (.ref de)) (fj270_8 : Fld Z h270 b1 "java/util/ArrayList" "size" "I" (.int 0)) (fj270_9 : Old Z n0 h270) (hix : ¬ ix < 0 ∧ ix < z) (hiu : ix.toNatClampNeg = ((own_fi x z).toNatClampNeg + su) % z.toNatClampNeg) (hsu : su ≤ tt) (hlen : (own_ds hs x f z.toNatClampNeg (own_fi x z).toNatClampNeg su).length = 0) (hk270 : tt - su = k270), own_Gl p e below s (own_Q_own_off Z a x ob sb ko kh z f ofs hs SS cn de kd ca ccl h0 n0) 11 22 (T270.setTop (mkF m 14 #[.val (.ref a), .val (.int x), .val (.ref b1), .val (.int ix)] [])) := by
    intro k270
    induction k270 using Nat.strongRecOn with
    | _ k270 ih270 =>
      intro T270 LL270 N270 X270 h270 e270 su ix Zs270 Kj270 fj270_0 fj270_1 fj270_2 fj270_3 fj270_4 fj270_5 fj270_6 fj270_7 fj270_8 fj270_9 hix hiu hsu hlen hk270
      show own_Gl _ _ _ _ _ _ _ (T270.setTop (mkF m 14 #[.val (.ref a), .val (.int x), .val (.ref b1), .val (.int ix)] []))
      refine own_st (fun _ k => XS.aloadN X270.here hx rfl (hb hby own_d7_14) rfl rfl k) ?_
      obtain ⟨T271, X271, e271, st271⟩ := getF X270 hx hZ hown (host := "") (Or.inl (oW hw 12 rfl)) Via.refl e270 fj270_1 (g := (mkF m 15 #[.val (.ref a), .val (.int x), .val (.ref b1), .val (.int ix)] [(.ref a)])) rfl rfl (hb hby own_d7_15)
      refine own_st st271 ?_
      refine own_st (fun _ k => XS.iloadN X271.here hx rfl (hb hby own_d7_18) rfl k) ?_
      obtain ⟨cl272, Ar272, qq272, Ss272, Nn272, Hh272, Gg272⟩ := id fj270_3
      have hin272 : ¬ (ix < 0 ∨ cl272.slots.size ≤ (ix).toNatClampNeg) := inb_of Ss272 hix
      have hat272 : cl272.slots[(ix).toNatClampNeg]? = some (.long (ofs (f ix.toNatClampNeg))) := Hh272.at hin272 (own_fj_get _ _ _ _ (own_natlt hix.1 hix.2))
      refine own_st (X271.laload hx (j := ix) (v := (.long (ofs (f ix.toNatClampNeg)))) (by rw [e271]; exact Ar272.1) (State.isArrayOf_alike hZ.alike Ar272.2.1) Ar272.2.2 hin272 hat272 (g := (mkF m 19 #[.val (.ref a), .val (.int x), .val (.ref b1), .val (.int ix)] [(.int ix), (.ref ob)])) rfl rfl (hb hby own_d7_19)) ?_
      show own_Gl _ _ _ _ _ _ _ (T271.setTop (mkF m 20 #[.val (.ref a), .val (.int x), .val (.ref b1), .val (.int ix)] [(.long (ofs (f ix.toNatClampNeg)))]))
      refine own_st (fun _ k => XS.lconst X271.here hx rfl (hb hby own_d7_20) k) ?_
      refine own_st (fun _ k => XS.lcmp X271.here hx rfl (hb hby own_d7_21) rfl k) ?_
      by_cases hc22 : (ofs (f ix.toNatClampNeg)) = (0 : Int64)
      · have hst : su = tt := by
          rcases Nat.lt_or_eq_of_le hsu with q | q
          · exact absurd ((hof9 _ (hok.le _)).1.mp hc22) (by rw [hiu]; exact htn su q)
          · exact q
        rw [hst] at hlen
        refine own_st (fun _ k => XS.ifYes X271.here hx rfl (pc0 := 22) (pc' := 60) rfl (hb hby own_d7_22) rfl ((if0 _ _).trans (teq ((lw_eq _ _).mpr hc22)).1) (by decide) (by decide) k) ?_
        refine own_st (fun _ k => XS.aloadN X271.here hx rfl (hb hby own_d7_60) rfl rfl k) ?_
        show own_Gl _ _ _ _ _ _ _ (T271.setTop (mkF m 61 #[.val (.ref a), .val (.int x), .val (.ref b1), .val (.int ix)] [(.ref b1)]))
        exact own_retA X271 hx hlk hret rfl rfl rfl (hb hby own_d7_61) e271 ⟨b1, (0 : Int32), (own_ds hs x f z.toNatClampNeg (own_fi x z).toNatClampNeg tt), rfl, N270, Kj270, fj270_5, fj270_8, (by rw [hlen]; rfl), (own_ds_nodup hok hs x _ tt (Nat.le_of_lt htZ) htn), (own_ds_mem hok hs x _ tt (fun j e => by unfold own_q; rw [e]) ht0 htn), (by rw [hlen]; decide), (fun i hi => absurd hi (by rw [hlen]; exact Nat.not_lt_zero _))⟩ (by decide) (by decide)
      · have hlt : su + 1 ≤ tt := by
          rcases Nat.lt_or_eq_of_le hsu with q | q
          · exact q
          · exact absurd ((hof9 _ (hok.le _)).1.mpr (by rw [hiu, q]; exact ht0)) hc22
        refine own_st (fun _ k => XS.ifNo X271.here hx rfl (hb hby own_d7_22) rfl ((if0 _ _).trans (feq (mt (lw_eq _ _).mp hc22)).1) k) ?_
        refine own_st (fun _ k => XS.aloadN X271.here hx rfl (hb hby own_d7_25) rfl rfl k) ?_
        show own_Gl _ _ _ _ _ _ _ (T271.setTop (mkF m 26 #[.val (.ref a), .val (.int x), .val (.ref b1), .val (.int ix)] [(.ref a)]))
        obtain ⟨T273, X273, e273, st273⟩ := getF X271 hx hZ hown (host := "") (Or.inl (oW hw 15 rfl)) Via.refl e271 fj270_2 (g := (mkF m 26 #[.val (.ref a), .val (.int x), .val (.ref b1), .val (.int ix)] [(.ref a)])) rfl rfl (hb hby own_d7_26)
        refine own_st st273 ?_
        refine own_st (fun _ k => XS.iloadN X273.here hx rfl (hb hby own_d7_29) rfl k) ?_
        obtain ⟨cl274, Ar274, qq274, Ss274, Nn274, Hh274, Gg274⟩ := id fj270_4
        have hin274 : ¬ (ix < 0 ∨ cl274.slots.size ≤ (ix).toNatClampNeg) := inb_of Ss274 hix
        have hat274 : cl274.slots[(ix).toNatClampNeg]? = some (.int (hs (f ix.toNatClampNeg))) := Hh274.at hin274 (own_fl_get _ _ _ _ (own_natlt hix.1 hix.2))
        refine own_st (X273.iaload hx (j := ix) (v := (.int (hs (f ix.toNatClampNeg)))) (by rw [e273]; exact Ar274.1) (State.isArrayOf_alike hZ.alike Ar274.2.1) Ar274.2.2 hin274 hat274 (g := (mkF m 30 #[.val (.ref a), .val (.int x), .val (.ref b1), .val (.int ix)] [(.int ix), (.ref sb)])) rfl rfl (hb hby own_d7_30)) ?_
        refine own_st (fun _ k => XS.iloadN X273.here hx rfl (hb hby own_d7_31) rfl k) ?_
        show own_Gl _ _ _ _ _ _ _ (T273.setTop (mkF m 32 #[.val (.ref a), .val (.int x), .val (.ref b1), .val (.int ix)] [(.int x), (.int (hs (f ix.toNatClampNeg)))]))
        by_cases hc32 : (hs (f ix.toNatClampNeg)) = x
        · have hyn : hs (f (((own_fi x z).toNatClampNeg + su) % z.toNatClampNeg)) = x := by rw [← hiu]; exact hc32
          have hl1 := own_ds_len hok hs x (own_fi x z).toNatClampNeg (su + 1) (by omega) (fun u hu => htn u (by omega))
          rw [own_ds_yes _ _ _ _ _ _ hyn, List.length_append, hlen, List.length_singleton] at hl1
          refine own_st (fun _ k => XS.icmpNo X273.here hx rfl (hb hby own_d7_32) rfl (teq hc32).2 k) ?_
          refine own_st (fun _ k => XS.aloadN X273.here hx rfl (hb hby own_d7_35) rfl rfl k) ?_
          refine own_st (fun _ k => XS.aloadN X273.here hx rfl (hb hby own_d7_36) rfl rfl k) ?_
          obtain ⟨T275, X275, e275, st275⟩ := getF X273 hx hZ hown (host := "") (Or.inl (oW hw 12 rfl)) Via.refl e273 fj270_1 (g := (mkF m 37 #[.val (.ref a), .val (.int x), .val (.ref b1), .val (.int ix)] [(.ref a), (.ref b1)])) rfl rfl (hb hby own_d7_37)
          refine own_st st275 ?_
          show own_Gl _ _ _ _ _ _ _ (T275.setTop (mkF m 40 #[.val (.ref a), .val (.int x), .val (.ref b1), .val (.int ix)] [(.ref ob), (.ref b1)]))
          refine own_st (fun _ k => XS.iloadN X275.here hx rfl (hb hby own_d7_40) rfl k) ?_
          obtain ⟨cl276, Ar276, qq276, Ss276, Nn276, Hh276, Gg276⟩ := id fj270_3
          have hin276 : ¬ (ix < 0 ∨ cl276.slots.size ≤ (ix).toNatClampNeg) := inb_of Ss276 hix
          have hat276 : cl276.slots[(ix).toNatClampNeg]? = some (.long (ofs (f ix.toNatClampNeg))) := Hh276.at hin276 (own_fj_get _ _ _ _ (own_natlt hix.1 hix.2))
          refine own_st (X275.laload hx (j := ix) (v := (.long (ofs (f ix.toNatClampNeg)))) (by rw [e275]; exact Ar276.1) (State.isArrayOf_alike hZ.alike Ar276.2.1) Ar276.2.2 hin276 hat276 (g := (mkF m 41 #[.val (.ref a), .val (.int x), .val (.ref b1), .val (.int ix)] [(.int ix), (.ref ob), (.ref b1)])) rfl rfl (hb hby own_d7_41)) ?_
          obtain ⟨_, _, ⟨T277, L277, k277, n277⟩, -, X277, ⟨Lc277, hQ277, l277, y277, z277⟩, st277⟩ := Jvm.LawKit.callS X275 hx (y := oM8) hown (mvT hZ (oW hw 94 rfl)) (mvT hZ (oW hw 95 rfl)) (mvT hZ (oW hw 96 rfl)) (mvT hZ (oW hw 97 rfl)) (by decide) (backOf (W := 1) (own_valueOf l Z a0 hw [] (ofs (f ix.toNatClampNeg)) ca ccl h270 n0 Zs270 (S_cache.ext fj270_9.2) (hcaZ.ext fj270_9.2) hcs (fun j q1 q2 => (hcacheZ j q1 q2).imp fun r q => ⟨q.1, q.2.1.ext fj270_9.2, q.2.2.ext fj270_9.2⟩)) hZ (oW hw 97 rfl) (oW hw 96 rfl) (by decide) (by decide)) (g := (mkF m 42 #[.val (.ref a), .val (.int x), .val (.ref b1), .val (.int ix)] [(.long (ofs (f ix.toNatClampNeg))), (.ref b1)])) rfl (by rw [hml]; rfl) (argsL := [(.long (ofs (f ix.toNatClampNeg)))]) (rest := [(.ref b1)]) (lenOf own_pd940381112 rfl) rfl (by show 2 * 0 + _ ≤ _; exact Nat.le_of_eq rfl) (hb hby own_d7_42) (fun _ _ => ⟨rfl, e275, (by decide : 1 + 1 ≤ 11), (by decide : 3 + 1 ≤ 22)⟩)
          dsimp only [Pt.U, Pt.locs, Pt.cells, Pt.slots] at X277 l277 y277 z277 st277 hQ277
          subst l277 y277 z277
          obtain ⟨hh277, eh0277⟩ : ∃ z, T277.heap = z := ⟨_, rfl⟩
          rw [eh0277] at hQ277
          obtain ⟨r_277, rfl, Nq277, Kq277, P277_0, P277_1⟩ := hQ277
          have N277 := Fr.app N270 Nq277
          refine own_st st277 ?_
          have Zs278 : n0 ≤ hh277.size := Nat.le_trans Zs270 Kq277.1
          have f279 := (fj270_5.keep Kq277)
          have ne_r_li : r_277 ≠ b1 := own_exne P277_0 f279 (by decide)
          have f281 := (fj270_6.keep Kq277 nin0)
          have f282 := (fj270_7.keep Kq277 nin0)
          have f283 := (fj270_8.keep Kq277 nin0)
          have f284 := (fj270_9.keep Kq277 all0)
          have f285 := (fj270_0.keep Kq277)
          have f286 := (fj270_3.keep Kq277 nin0)
          have f287 := (fj270_4.keep Kq277 nin0)
          obtain ⟨cq280, kq280, q280a, q280b, q280c⟩ := isOf hZ eh0277 f279
          obtain ⟨_, _, ⟨T280, L280, k280, n280⟩, -, X280, ⟨Lc280, hQ280, l280, y280, z280⟩, st280⟩ := X277.interfaceBack hx (xi := oM18) (y := oM16) hown (mvT hZ (oW hw 115 rfl)) (mvT hZ (oW hw 116 rfl)) (mvT hZ (oW hw 117 rfl)) (mvT hZ (oW hw 118 rfl)) (mvT hZ (oW hw 119 rfl)) (mvT hZ (oW hw 120 rfl)) (mvT hZ (oW hw 121 rfl)) (mvT hZ (oW hw 76 rfl)) (by decide) (backOf (W := 0) (own_add1f l Z a0 hw [] b1 de kd (0 : Int32) r_277 hh277 n0 Zs278 f279 f281 f282 f283 g_b1 f284 S_DEFAULTCAPACITY_EMPTY_ELEMENTDATA hdeZ P277_0) hZ (oW hw 122 rfl) (oW hw 44 rfl) (by decide) (by decide)) q280a q280b q280c (g := (mkF m 45 #[.val (.ref a), .val (.int x), .val (.ref b1), .val (.int ix)] [(.ref r_277), (.ref b1)])) rfl (by rw [hml]; rfl) (Steps.refl _) (argsL := [(.ref r_277)]) (rest := []) (lenOf own_pd963338152 rfl) rfl (by show 2 * 0 + _ ≤ _; exact Nat.le_of_eq rfl) (hb hby own_d7_45) (fun _ _ => ⟨rfl, eh0277, (by decide : 2 + 1 ≤ 11), (by decide : 4 + 10 ≤ 22)⟩)
          dsimp only [Pt.U, Pt.locs, Pt.cells, Pt.slots] at X280 l280 y280 z280 st280 hQ280
          subst l280 y280 z280
          obtain ⟨hh280, eh0280⟩ : ∃ z, T280.heap = z := ⟨_, rfl⟩
          rw [eh0280] at hQ280
          obtain ⟨ed_280, ke_280, rfl, Nq280, Kq280, P280_0, P280_1, P280_2, P280_3, P280_4, P280_5, P280_6⟩ := hQ280
          have N280 := Fr.app N277 Nq280
          refine own_tr st280 ?_
          have K288 : Keep h0 hh277 [] := (Kj270.trans Kq277 all0)
          have Zs289 : n0 ≤ hh280.size := Nat.le_trans Zs278 Kq280.1
          have gh_ed_280 : h0.size ≤ ed_280 := Nat.le_trans K288.1 P280_1
          have ne_a_ed_280 : a ≠ ed_280 := Nat.ne_of_lt (Nat.lt_of_lt_of_le f285.lt P280_1)
          have ne_ob_ed_280 : ob ≠ ed_280 := Nat.ne_of_lt (Nat.lt_of_lt_of_le f286.lt P280_1)
          have ne_sb_ed_280 : sb ≠ ed_280 := Nat.ne_of_lt (Nat.lt_of_lt_of_le f287.lt P280_1)
          have ne_b1_ed_280 : b1 ≠ ed_280 := Nat.ne_of_lt (Nat.lt_of_lt_of_le f279.lt P280_1)
          have ne_r_277_ed_280 : r_277 ≠ ed_280 := Nat.ne_of_lt (Nat.lt_of_lt_of_le P277_0.lt P280_1)
          have f290 := (P277_0.keep Kq280)
          have f291 := (P277_1.keep Kq280 (ninS ne_r_li nin0))
          have hel1 : own_He Z hh280 ofs (own_ds hs x f z.toNatClampNeg (own_fi x z).toNatClampNeg su) (fun _ => r_277) := fun i hi => absurd hi (by rw [hlen]; exact Nat.not_lt_zero _)
          have hel2 := own_He_add hel1 hlen f290 f291
          rw [hiu] at hel2
          show own_Gl _ _ _ _ _ _ _ (T280.setTop (mkF m 50 #[.val (.ref a), .val (.int x), .val (.ref b1), .val (.int ix)] [(.int 1)]))
          refine own_st (fun _ k => XS.pop X280.here hx rfl (hb hby own_d7_50) rfl rfl k) ?_
          refine own_st (fun _ k => XS.aloadN X280.here hx rfl (hb hby own_d7_51) rfl rfl k) ?_
          refine own_st (fun _ k => XS.iloadN X280.here hx rfl (hb hby own_d7_52) rfl k) ?_
          have f293 := ((fj270_1.keep Kq277 nin0).keep Kq280 (ninS ne_a_b1 nin0))
          have f294 := (f286.keep Kq280 (ninS ne_ob_b1 nin0))
          have f295 := (f285.keep Kq280)
          have f296 := (f287.keep Kq280 (ninS ne_sb_b1 nin0))
          have f297 := (f279.keep Kq280)
          obtain ⟨cq292, q292, qq292⟩ := f295.cell
          obtain ⟨_, _, ⟨T292, L292, k292, n292⟩, -, X292, ⟨Lc292, hQ292, l292, y292, z292⟩, st292⟩ := X280.privateBack hx (y := oM2) hown (mvT hZ (oW hw 84 rfl)) (mvT hZ (oW hw 85 rfl)) (own_selpriv hZ (oW hw 3 rfl) (oW hw 86 rfl) (oW hw 85 rfl) (by decide)) (Cond.privateMethod_at (mvP hZ (oW hw 86 rfl) (args := #[]))) (mvT hZ (oW hw 87 rfl)) (by decide) (backOf (W := 0) (own_next l Z a0 hw [] a ix ob ko z (own_fj z.toNatClampNeg (fun p => ofs (f p))) hh280 n0 Zs289 f293 f294 hz) hZ (oW hw 87 rfl) (oW hw 4 rfl) (by decide) (by decide)) (g := (mkF m 53 #[.val (.ref a), .val (.int x), .val (.ref b1), .val (.int ix)] [(.int ix), (.ref a)])) rfl (by rw [hml]; rfl) (Steps.refl _) (a := a) (by rw [eh0280]; exact q292) qq292 (argsL := [(.int ix)]) (rest := []) (lenOf own_pd91181837 rfl) rfl (by show 2 * 0 + _ ≤ _; exact Nat.le_of_eq rfl) (hb hby own_d7_53) (fun _ _ => ⟨rfl, eh0280, (by decide : 3 + 0 ≤ 11), (by decide : 14 + 0 ≤ 22)⟩)
          dsimp only [Pt.U, Pt.locs, Pt.cells, Pt.slots] at X292 l292 y292 z292 st292 hQ292
          subst l292 y292 z292
          obtain ⟨hh292, eh0292⟩ : ∃ z, T292.heap = z := ⟨_, rfl⟩
          rw [eh0292] at hQ292
          obtain ⟨rfl, Nq292, eh292⟩ := hQ292
          have N292 := Fr.app N280 Nq292
          refine own_tr st292 ?_
          have e292 : T292.heap = hh280 := eh0292.trans eh292
          show own_Gl _ _ _ _ _ _ _ (T292.setTop (mkF m 56 #[.val (.ref a), .val (.int x), .val (.ref b1), .val (.int ix)] [(.int (own_nxt ix z))]))
          refine own_st (fun _ k => XS.istoreN X292.here hx rfl (hb hby own_d7_56) rfl (l' := #[.val (.ref a), .val (.int x), .val (.ref b1), .val (.int (own_nxt ix z))]) rfl k) ?_
          refine own_st (fun _ k => XS.goto X292.here hx rfl (pc0 := 57) (pc' := 14) rfl (hb hby own_d7_57) (by decide) (by decide) k) ?_
          have K298 : Keep h0 hh280 [] := (K288.trans Kq280 (allS (Or.inr gh_b1) all0))
          have f299 := ((fj270_2.keep Kq277 nin0).keep Kq280 (ninS ne_a_b1 nin0))
          have f300 := (f284.keep Kq280 (allS g_b1 all0))
          show own_Gl _ _ _ _ _ _ _ (T292.setTop (mkF m 14 #[.val (.ref a), .val (.int x), .val (.ref b1), .val (.int (own_nxt ix z))] []))
          exact J14_239 _ T292 _ N292 X292 _ e292 ((su + 1)) ((own_nxt ix z)) (((0 : Int32) + (1 : Int32))) (ed_280) (ke_280) ((fun i => if i = 0 then r_277 else r_277)) Zs289 K298 f295 f293 f299 f294 f296 f297 P280_2 P280_3 P280_4 f300 P280_5 (own_nxt_in ix z hz hix).1 (by rw [(own_nxt_in ix z hz hix).2, hiu, Nat.mod_add_mod, Nat.add_assoc]) hlt (by rw [own_ds_yes _ _ _ _ _ _ hyn, List.length_append, hlen]; rfl) P280_0 gh_ed_280 (Ne.symm ne_b1_ed_280) (Ne.symm ne_a_ed_280) (Ne.symm ne_ob_ed_280) (Ne.symm ne_sb_ed_280) P280_6 (by rw [own_ds_yes _ _ _ _ _ _ hyn]; exact hel2) rfl
        · have hyn : ¬ hs (f (((own_fi x z).toNatClampNeg + su) % z.toNatClampNeg)) = x := by rw [← hiu]; exact hc32
          refine own_st (fun _ k => XS.icmpYes X273.here hx rfl (pc0 := 32) (pc' := 51) rfl (hb hby own_d7_32) rfl (feq hc32).2 (by decide) (by decide) k) ?_
          refine own_st (fun _ k => XS.aloadN X273.here hx rfl (hb hby own_d7_51) rfl rfl k) ?_
          refine own_st (fun _ k => XS.iloadN X273.here hx rfl (hb hby own_d7_52) rfl k) ?_
          obtain ⟨cq301, q301, qq301⟩ := fj270_0.cell
          obtain ⟨_, _, ⟨T301, L301, k301, n301⟩, -, X301, ⟨Lc301, hQ301, l301, y301, z301⟩, st301⟩ := X273.privateBack hx (y := oM2) hown (mvT hZ (oW hw 84 rfl)) (mvT hZ (oW hw 85 rfl)) (own_selpriv hZ (oW hw 3 rfl) (oW hw 86 rfl) (oW hw 85 rfl) (by decide)) (Cond.privateMethod_at (mvP hZ (oW hw 86 rfl) (args := #[]))) (mvT hZ (oW hw 87 rfl)) (by decide) (backOf (W := 0) (own_next l Z a0 hw [] a ix ob ko z (own_fj z.toNatClampNeg (fun p => ofs (f p))) h270 n0 Zs270 fj270_1 fj270_3 hz) hZ (oW hw 87 rfl) (oW hw 4 rfl) (by decide) (by decide)) (g := (mkF m 53 #[.val (.ref a), .val (.int x), .val (.ref b1), .val (.int ix)] [(.int ix), (.ref a)])) rfl (by rw [hml]; rfl) (Steps.refl _) (a := a) (by rw [e273]; exact q301) qq301 (argsL := [(.int ix)]) (rest := []) (lenOf own_pd91181837 rfl) rfl (by show 2 * 0 + _ ≤ _; exact Nat.le_of_eq rfl) (hb hby own_d7_53) (fun _ _ => ⟨rfl, e273, (by decide : 1 + 0 ≤ 11), (by decide : 3 + 0 ≤ 22)⟩)
          dsimp only [Pt.U, Pt.locs, Pt.cells, Pt.slots] at X301 l301 y301 z301 st301 hQ301
          subst l301 y301 z301
          obtain ⟨hh301, eh0301⟩ : ∃ z, T301.heap = z := ⟨_, rfl⟩
          rw [eh0301] at hQ301
          obtain ⟨rfl, Nq301, eh301⟩ := hQ301
          have N301 := Fr.app N270 Nq301
          refine own_tr st301 ?_
          have e301 : T301.heap = h270 := eh0301.trans eh301
          show own_Gl _ _ _ _ _ _ _ (T301.setTop (mkF m 56 #[.val (.ref a), .val (.int x), .val (.ref b1), .val (.int ix)] [(.int (own_nxt ix z))]))
          refine own_st (fun _ k => XS.istoreN X301.here hx rfl (hb hby own_d7_56) rfl (l' := #[.val (.ref a), .val (.int x), .val (.ref b1), .val (.int (own_nxt ix z))]) rfl k) ?_
          refine own_st (fun _ k => XS.goto X301.here hx rfl (pc0 := 57) (pc' := 14) rfl (hb hby own_d7_57) (by decide) (by decide) k) ?_
          show own_Gl _ _ _ _ _ _ _ (T301.setTop (mkF m 14 #[.val (.ref a), .val (.int x), .val (.ref b1), .val (.int (own_nxt ix z))] []))
          exact ih270 _ (by omega) T301 _ N301 X301 _ e301 ((su + 1)) ((own_nxt ix z)) Zs270 Kj270 fj270_0 fj270_1 fj270_2 fj270_3 fj270_4 fj270_5 fj270_6 fj270_7 fj270_8 fj270_9 (own_nxt_in ix z hz hix).1 (by rw [(own_nxt_in ix z hz hix).2, hiu, Nat.mod_add_mod, Nat.add_assoc]) hlt (by rw [own_ds_no _ _ _ _ _ _ hyn]; exact hlen) rfl
  have K302 : Keep h0 hh4 [] := (((Keep.refl h0 []).ext E1).trans Kq4 (allS (Or.inr gh_b1) all0))
  have f303 := ((F_a_hashes.ext E1).keep Kq4 (ninS ne_a_b1 nin0))
  have f304 := (f5.keep Kq4 (allS g_b1 all0))
  show own_Gl _ _ _ _ _ _ _ (T10.setTop (mkF m 14 #[.val (.ref a), .val (.int x), .val (.ref b1), .val (.int (own_fi x z))] []))
  exact J14_270 _ T10 _ N10 X10 _ e10 (0) ((own_fi x z)) Zs9 K302 f13 f11 f303 f12 f14 f15 P4_0 P4_1 P4_2 f304 (own_fi_in _ _ hz) (by rw [Nat.add_zero, Nat.mod_eq_of_lt hqlt]) (Nat.zero_le _) rfl rfl
theorem own_d12_0 : decode jdk_38_method_8_code 0 = .ok (.aload_n 0, 1) := by decide +kernel
theorem own_d12_1 : decode jdk_38_method_8_code 1 = .ok (.getfield 48, 3) := by decide +kernel
theorem own_d12_4 : decode jdk_38_method_8_code 4 = .ok (.ireturn, 1) := by decide +kernel
theorem own_ef_own_size (m : MethodId) (x0 : Addr) : entryFrame m #[(.ref x0)] 1 = mkF m 0 #[.val (.ref x0)] [] := by first | (simp [entryFrame, mkF, argsToLocals, Value.category]; done) | rfl
def own_Q_own_size (Z : State) (a : Addr) (N : Int32) (h0 : Heap) (n0 : Nat) (v : Option Value) (h : Heap) (L : List Loc) : Prop := (v = some (.int N)) ∧ (Fr n0 L) ∧ (h = h0)

theorem own_size (l : Launch) (Z : State) (a0 : Array Value) (hw : oT a0 Z) (ws : List Jvm.Cond) (a : Addr) (N : Int32) (h0 : Heap) (n0 : Nat) (Z0 : n0 ≤ h0.size) (F_a_size : Fld Z h0 a "java/util/ArrayList" "size" "I" (.int N)) :
    oMet l oM19 jdk_38_method_8_code 1 (some .int) ws ⟨0, 0, 0, 0⟩ #[(.ref a)] Z h0 (own_Q_own_size Z a N h0 n0) := by
  refine oB n0 "java/util/ArrayList" rfl (plainFor_of_name own_pn571398808) (fun m => own_ef_own_size m a) ?_
  intro p e s m below meth c s₁ hZ hx hby hlk hret hml hown hnm X0 e0 N0
  show own_Gl _ _ _ _ _ _ _ (s₁.setTop (mkF m 0 #[.val (.ref a)] []))
  refine own_st (fun _ k => XS.aloadN X0.here hx rfl (hb hby own_d12_0) rfl rfl k) ?_
  obtain ⟨T1, X1, e1, st1⟩ := getF X0 hx hZ hown (host := "") (Or.inl (oW hw 78 rfl)) Via.refl e0 F_a_size (g := (mkF m 1 #[.val (.ref a)] [(.ref a)])) rfl rfl (hb hby own_d12_1)
  refine own_st st1 ?_
  show own_Gl _ _ _ _ _ _ _ (T1.setTop (mkF m 4 #[.val (.ref a)] [(.int N)]))
  exact own_retI X1 hx hlk hret (hb hby own_d12_4) e1 ⟨rfl, N0, rfl⟩ (by decide) (by decide)
theorem own_d25_0 : decode jdk_41_method_11_code 0 = .ok (.iload_n 0, 1) := by decide +kernel
theorem own_d25_1 : decode jdk_41_method_11_code 1 = .ok (.ifCond .lt 8, 3) := by decide +kernel
theorem own_d25_4 : decode jdk_41_method_11_code 4 = .ok (.iload_n 0, 1) := by decide +kernel
theorem own_d25_5 : decode jdk_41_method_11_code 5 = .ok (.iload_n 1, 1) := by decide +kernel
theorem own_d25_6 : decode jdk_41_method_11_code 6 = .ok (.if_icmp .lt 10, 3) := by decide +kernel
theorem own_d25_16 : decode jdk_41_method_11_code 16 = .ok (.iload_n 0, 1) := by decide +kernel
theorem own_d25_17 : decode jdk_41_method_11_code 17 = .ok (.ireturn, 1) := by decide +kernel
theorem own_ef_own_pci (m : MethodId) (x0 : Int32) (x1 : Int32) : entryFrame m #[(.int x0), (.int x1), .null] 3 = mkF m 0 #[.val (.int x0), .val (.int x1), .val .null] [] := by first | (simp [entryFrame, mkF, argsToLocals, Value.category]; done) | rfl
def own_Q_own_pci (Z : State) (i : Int32) (N : Int32) (h0 : Heap) (n0 : Nat) (v : Option Value) (h : Heap) (L : List Loc) : Prop := (v = some (.int i)) ∧ (Fr n0 L) ∧ (h = h0)
theorem own_pn913636737 : plainName "jdk/internal/util/Preconditions" = true := by first | (simp [plainName, overriddenIn]; done) | decide +kernel

theorem own_pci (l : Launch) (Z : State) (a0 : Array Value) (hw : oT a0 Z) (ws : List Jvm.Cond) (i : Int32) (N : Int32) (h0 : Heap) (n0 : Nat) (Z0 : n0 ≤ h0.size) (hi : ¬ i < 0 ∧ i < N) :
    oMet l oM20 jdk_41_method_11_code 3 (some .int) ws ⟨0, 0, 0, 0⟩ #[(.int i), (.int N), .null] Z h0 (own_Q_own_pci Z i N h0 n0) := by
  refine oB n0 "jdk/internal/util/Preconditions" rfl (plainFor_of_name own_pn913636737) (fun m => own_ef_own_pci m i N) ?_
  intro p e s m below meth c s₁ hZ hx hby hlk hret hml hown hnm X0 e0 N0
  show own_Gl _ _ _ _ _ _ _ (s₁.setTop (mkF m 0 #[.val (.int i), .val (.int N), .val .null] []))
  refine own_st (fun _ k => XS.iloadN X0.here hx rfl (hb hby own_d25_0) rfl k) ?_
  have hd1 : ¬ (i < (0 : Int32)) := hi.1
  refine own_st (fun _ k => XS.ifNo X0.here hx rfl (hb hby own_d25_1) rfl ((if0 _ _).trans (flt hd1).1) k) ?_
  refine own_st (fun _ k => XS.iloadN X0.here hx rfl (hb hby own_d25_4) rfl k) ?_
  refine own_st (fun _ k => XS.iloadN X0.here hx rfl (hb hby own_d25_5) rfl k) ?_
  show own_Gl _ _ _ _ _ _ _ (s₁.setTop (mkF m 6 #[.val (.int i), .val (.int N), .val .null] [(.int N), (.int i)]))
  have hd2 : i < N := hi.2
  refine own_st (fun _ k => XS.icmpYes X0.here hx rfl (pc0 := 6) (pc' := 16) rfl (hb hby own_d25_6) rfl (tlt hd2).1 (by decide) (by decide) k) ?_
  refine own_st (fun _ k => XS.iloadN X0.here hx rfl (hb hby own_d25_16) rfl k) ?_
  show own_Gl _ _ _ _ _ _ _ (s₁.setTop (mkF m 17 #[.val (.int i), .val (.int N), .val .null] [(.int i)]))
  exact own_retI X0 hx hlk hret (hb hby own_d25_17) e0 ⟨rfl, N0, rfl⟩ (by decide) (by decide)
theorem own_d24_0 : decode jdk_31_method_17_code 0 = .ok (.iload_n 0, 1) := by decide +kernel
theorem own_d24_1 : decode jdk_31_method_17_code 1 = .ok (.iload_n 1, 1) := by decide +kernel
theorem own_d24_2 : decode jdk_31_method_17_code 2 = .ok (.aconst_null, 1) := by decide +kernel
theorem own_d24_3 : decode jdk_31_method_17_code 3 = .ok (.invokestatic 105, 3) := by decide +kernel
theorem own_pd219207541 : parseMethodDescriptor "(IILjava/util/function/BiFunction;)I" = some ⟨[.int, .int, (.object "java/util/function/BiFunction")], some .int⟩ := by decide +kernel
theorem own_d24_6 : decode jdk_31_method_17_code 6 = .ok (.ireturn, 1) := by decide +kernel
theorem own_ef_own_oci (m : MethodId) (x0 : Int32) (x1 : Int32) : entryFrame m #[(.int x0), (.int x1)] 2 = mkF m 0 #[.val (.int x0), .val (.int x1)] [] := by first | (simp [entryFrame, mkF, argsToLocals, Value.category]; done) | rfl
def own_Q_own_oci (Z : State) (i : Int32) (N : Int32) (h0 : Heap) (n0 : Nat) (v : Option Value) (h : Heap) (L : List Loc) : Prop := (v = some (.int i)) ∧ (Fr n0 L) ∧ (h = h0)
theorem own_pn398432930 : plainName "java/util/Objects" = true := by first | (simp [plainName, overriddenIn]; done) | decide +kernel

theorem own_oci (l : Launch) (Z : State) (a0 : Array Value) (hw : oT a0 Z) (ws : List Jvm.Cond) (i : Int32) (N : Int32) (h0 : Heap) (n0 : Nat) (Z0 : n0 ≤ h0.size) (hi : ¬ i < 0 ∧ i < N) :
    oMet l oM21 jdk_31_method_17_code 2 (some .int) ws ⟨1, 0, 0, 14⟩ #[(.int i), (.int N)] Z h0 (own_Q_own_oci Z i N h0 n0) := by
  refine oB n0 "java/util/Objects" rfl (plainFor_of_name own_pn398432930) (fun m => own_ef_own_oci m i N) ?_
  intro p e s m below meth c s₁ hZ hx hby hlk hret hml hown hnm X0 e0 N0
  show own_Gl _ _ _ _ _ _ _ (s₁.setTop (mkF m 0 #[.val (.int i), .val (.int N)] []))
  refine own_st (fun _ k => XS.iloadN X0.here hx rfl (hb hby own_d24_0) rfl k) ?_
  refine own_st (fun _ k => XS.iloadN X0.here hx rfl (hb hby own_d24_1) rfl k) ?_
  refine own_st (fun _ k => XS.aconstNull X0.here hx rfl (hb hby own_d24_2) k) ?_
  obtain ⟨_, _, ⟨T1, L1, k1, n1⟩, -, X1, ⟨Lc1, hQ1, l1, y1, z1⟩, st1⟩ := Jvm.LawKit.callS X0 hx (y := oM20) hown (mvT hZ (oW hw 159 rfl)) (mvT hZ (oW hw 160 rfl)) (mvT hZ (oW hw 161 rfl)) (mvT hZ (oW hw 162 rfl)) (by decide) (backOf (W := 0) (own_pci l Z a0 hw [] i N h0 n0 Z0 hi) hZ (oW hw 162 rfl) (oW hw 161 rfl) (by decide) (by decide)) (g := (mkF m 3 #[.val (.int i), .val (.int N)] [.null, (.int N), (.int i)])) rfl (by rw [hml]; rfl) (argsL := [(.int i), (.int N), .null]) (rest := []) (lenOf own_pd219207541 rfl) rfl (by show 2 * 0 + _ ≤ _; exact Nat.le_of_eq rfl) (hb hby own_d24_3) (fun _ _ => ⟨rfl, e0, (by decide : 0 + 0 ≤ 0), (by decide : 0 + 0 ≤ 0)⟩)
  dsimp only [Pt.U, Pt.locs, Pt.cells, Pt.slots] at X1 l1 y1 z1 st1 hQ1
  subst l1 y1 z1
  obtain ⟨hh1, eh01⟩ : ∃ z, T1.heap = z := ⟨_, rfl⟩
  rw [eh01] at hQ1
  obtain ⟨rfl, Nq1, eh1⟩ := hQ1
  have N1 := Fr.app N0 Nq1
  refine own_st st1 ?_
  have e1 : T1.heap = h0 := eh01.trans eh1
  show own_Gl _ _ _ _ _ _ _ (T1.setTop (mkF m 6 #[.val (.int i), .val (.int N)] [(.int i)]))
  exact own_retI X1 hx hlk hret (hb hby own_d24_6) e1 ⟨rfl, N1, rfl⟩ (by decide) (by decide)
theorem own_d26_0 : decode jdk_38_method_18_code 0 = .ok (.aload_n 0, 1) := by decide +kernel
theorem own_d26_1 : decode jdk_38_method_18_code 1 = .ok (.getfield 9, 3) := by decide +kernel
theorem own_d26_4 : decode jdk_38_method_18_code 4 = .ok (.iload_n 1, 1) := by decide +kernel
theorem own_d26_5 : decode jdk_38_method_18_code 5 = .ok (.aaload, 1) := by decide +kernel
theorem own_d26_6 : decode jdk_38_method_18_code 6 = .ok (.areturn, 1) := by decide +kernel
theorem own_ef_own_eld (m : MethodId) (x0 : Addr) (x1 : Int32) : entryFrame m #[(.ref x0), (.int x1)] 2 = mkF m 0 #[.val (.ref x0), .val (.int x1)] [] := by first | (simp [entryFrame, mkF, argsToLocals, Value.category]; done) | rfl
def own_Q_own_eld (Z : State) (a : Addr) (i : Int32) (ed : Addr) (ke : ClassId) (vs : List Value) (r : Addr) (h0 : Heap) (n0 : Nat) (v : Option Value) (h : Heap) (L : List Loc) : Prop := (v = some (.ref r)) ∧ (Fr n0 L) ∧ (h = h0)

theorem own_eld (l : Launch) (Z : State) (a0 : Array Value) (hw : oT a0 Z) (ws : List Jvm.Cond) (a : Addr) (i : Int32) (ed : Addr) (ke : ClassId) (vs : List Value) (r : Addr) (h0 : Heap) (n0 : Nat) (Z0 : n0 ≤ h0.size) (F_a_elementData : Fld Z h0 a "java/util/ArrayList" "elementData" "[Ljava/lang/Object;" (.ref ed)) (V_ed : Arv Z h0 ed ke (.object "java/lang/Object") (10 : Int32) vs .null) (h10 : ¬ i < 0 ∧ i < (10 : Int32)) (hr : vs.getD i.toNatClampNeg .null = .ref r) :
    oMet l oM22 jdk_38_method_18_code 2 (some (.object "java/lang/Object")) ws ⟨0, 0, 0, 0⟩ #[(.ref a), (.int i)] Z h0 (own_Q_own_eld Z a i ed ke vs r h0 n0) := by
  refine oB n0 "java/util/ArrayList" rfl (plainFor_of_name own_pn571398808) (fun m => own_ef_own_eld m a i) ?_
  intro p e s m below meth c s₁ hZ hx hby hlk hret hml hown hnm X0 e0 N0
  show own_Gl _ _ _ _ _ _ _ (s₁.setTop (mkF m 0 #[.val (.ref a), .val (.int i)] []))
  refine own_st (fun _ k => XS.aloadN X0.here hx rfl (hb hby own_d26_0) rfl rfl k) ?_
  obtain ⟨T1, X1, e1, st1⟩ := getF X0 hx hZ hown (host := "") (Or.inl (oW hw 64 rfl)) Via.refl e0 F_a_elementData (g := (mkF m 1 #[.val (.ref a), .val (.int i)] [(.ref a)])) rfl rfl (hb hby own_d26_1)
  refine own_st st1 ?_
  refine own_st (fun _ k => XS.iloadN X1.here hx rfl (hb hby own_d26_4) rfl k) ?_
  obtain ⟨cl2, Ar2, qq2, Ss2, Nn2, Hh2, Gg2⟩ := id V_ed
  have hin2 : ¬ (i < 0 ∨ cl2.slots.size ≤ (i).toNatClampNeg) := inb_of Ss2 h10
  have hat2 : cl2.slots[(i).toNatClampNeg]? = some (.ref r) := Hh2.at hin2 (hr)
  refine own_st (X1.aaload hx (j := i) (v := (.ref r)) (by rw [e1]; exact Ar2.1) (State.isArrayOf_alike hZ.alike Ar2.2.1) rfl Ar2.2.2 hin2 hat2 (g := (mkF m 5 #[.val (.ref a), .val (.int i)] [(.int i), (.ref ed)])) rfl rfl (hb hby own_d26_5)) ?_
  show own_Gl _ _ _ _ _ _ _ (T1.setTop (mkF m 6 #[.val (.ref a), .val (.int i)] [(.ref r)]))
  exact own_retA X1 hx hlk hret rfl rfl rfl (hb hby own_d26_6) e1 ⟨rfl, N0, rfl⟩ (by decide) (by decide)
theorem own_d23_0 : decode jdk_38_method_20_code 0 = .ok (.iload_n 1, 1) := by decide +kernel
theorem own_d23_1 : decode jdk_38_method_20_code 1 = .ok (.aload_n 0, 1) := by decide +kernel
theorem own_d23_2 : decode jdk_38_method_20_code 2 = .ok (.getfield 48, 3) := by decide +kernel
theorem own_d23_5 : decode jdk_38_method_20_code 5 = .ok (.invokestatic 118, 3) := by decide +kernel
theorem own_d23_8 : decode jdk_38_method_20_code 8 = .ok (.pop, 1) := by decide +kernel
theorem own_d23_9 : decode jdk_38_method_20_code 9 = .ok (.aload_n 0, 1) := by decide +kernel
theorem own_d23_10 : decode jdk_38_method_20_code 10 = .ok (.iload_n 1, 1) := by decide +kernel
theorem own_d23_11 : decode jdk_38_method_20_code 11 = .ok (.invokevirtual 123, 3) := by decide +kernel
theorem own_pd516517288 : parseMethodDescriptor "(I)Ljava/lang/Object;" = some ⟨[.int], some (.object "java/lang/Object")⟩ := by decide +kernel
theorem own_d23_14 : decode jdk_38_method_20_code 14 = .ok (.areturn, 1) := by decide +kernel
theorem own_ef_own_get (m : MethodId) (x0 : Addr) (x1 : Int32) : entryFrame m #[(.ref x0), (.int x1)] 2 = mkF m 0 #[.val (.ref x0), .val (.int x1)] [] := by first | (simp [entryFrame, mkF, argsToLocals, Value.category]; done) | rfl
def own_Q_own_get (Z : State) (a : Addr) (i : Int32) (ed : Addr) (ke : ClassId) (vs : List Value) (r : Addr) (N : Int32) (h0 : Heap) (n0 : Nat) (v : Option Value) (h : Heap) (L : List Loc) : Prop := (v = some (.ref r)) ∧ (Fr n0 L) ∧ (h = h0)

theorem own_get (l : Launch) (Z : State) (a0 : Array Value) (hw : oT a0 Z) (ws : List Jvm.Cond) (a : Addr) (i : Int32) (ed : Addr) (ke : ClassId) (vs : List Value) (r : Addr) (N : Int32) (h0 : Heap) (n0 : Nat) (Z0 : n0 ≤ h0.size) (E_a : Exa Z h0 a "java/util/ArrayList") (F_a_size : Fld Z h0 a "java/util/ArrayList" "size" "I" (.int N)) (F_a_elementData : Fld Z h0 a "java/util/ArrayList" "elementData" "[Ljava/lang/Object;" (.ref ed)) (V_ed : Arv Z h0 ed ke (.object "java/lang/Object") (10 : Int32) vs .null) (h10 : ¬ i < 0 ∧ i < (10 : Int32)) (hr : vs.getD i.toNatClampNeg .null = .ref r) (hi : ¬ i < 0 ∧ i < N) :
    oMet l oM23 jdk_38_method_20_code 2 (some (.object "java/lang/Object")) ws ⟨2, 0, 0, 27⟩ #[(.ref a), (.int i)] Z h0 (own_Q_own_get Z a i ed ke vs r N h0 n0) := by
  refine oB n0 "java/util/ArrayList" rfl (plainFor_of_name own_pn571398808) (fun m => own_ef_own_get m a i) ?_
  intro p e s m below meth c s₁ hZ hx hby hlk hret hml hown hnm X0 e0 N0
  show own_Gl _ _ _ _ _ _ _ (s₁.setTop (mkF m 0 #[.val (.ref a), .val (.int i)] []))
  refine own_st (fun _ k => XS.iloadN X0.here hx rfl (hb hby own_d23_0) rfl k) ?_
  refine own_st (fun _ k => XS.aloadN X0.here hx rfl (hb hby own_d23_1) rfl rfl k) ?_
  obtain ⟨T1, X1, e1, st1⟩ := getF X0 hx hZ hown (host := "") (Or.inl (oW hw 78 rfl)) Via.refl e0 F_a_size (g := (mkF m 2 #[.val (.ref a), .val (.int i)] [(.ref a), (.int i)])) rfl rfl (hb hby own_d23_2)
  refine own_st st1 ?_
  obtain ⟨_, _, ⟨T2, L2, k2, n2⟩, -, X2, ⟨Lc2, hQ2, l2, y2, z2⟩, st2⟩ := Jvm.LawKit.callS X1 hx (y := oM21) hown (mvT hZ (oW hw 155 rfl)) (mvT hZ (oW hw 156 rfl)) (mvT hZ (oW hw 157 rfl)) (mvT hZ (oW hw 158 rfl)) (by decide) (backOf (W := 0) (own_oci l Z a0 hw [] i N h0 n0 Z0 hi) hZ (oW hw 158 rfl) (oW hw 157 rfl) (by decide) (by decide)) (g := (mkF m 5 #[.val (.ref a), .val (.int i)] [(.int N), (.int i)])) rfl (by rw [hml]; rfl) (argsL := [(.int i), (.int N)]) (rest := []) (lenOf own_pd945365680 rfl) rfl (by show 2 * 0 + _ ≤ _; exact Nat.le_of_eq rfl) (hb hby own_d23_5) (fun _ _ => ⟨rfl, e1, (by decide : 0 + 0 ≤ 0), (by decide : 0 + 0 ≤ 0)⟩)
  dsimp only [Pt.U, Pt.locs, Pt.cells, Pt.slots] at X2 l2 y2 z2 st2 hQ2
  subst l2 y2 z2
  obtain ⟨hh2, eh02⟩ : ∃ z, T2.heap = z := ⟨_, rfl⟩
  rw [eh02] at hQ2
  obtain ⟨rfl, Nq2, eh2⟩ := hQ2
  have N2 := Fr.app N0 Nq2
  refine own_st st2 ?_
  have e2 : T2.heap = h0 := eh02.trans eh2
  show own_Gl _ _ _ _ _ _ _ (T2.setTop (mkF m 8 #[.val (.ref a), .val (.int i)] [(.int i)]))
  refine own_st (fun _ k => XS.pop X2.here hx rfl (hb hby own_d23_8) rfl rfl k) ?_
  refine own_st (fun _ k => XS.aloadN X2.here hx rfl (hb hby own_d23_9) rfl rfl k) ?_
  refine own_st (fun _ k => XS.iloadN X2.here hx rfl (hb hby own_d23_10) rfl k) ?_
  obtain ⟨cq3, kq3, q3a, q3b, q3c⟩ := isOf hZ e2 E_a
  obtain ⟨_, _, ⟨T3, L3, k3, n3⟩, -, X3, ⟨Lc3, hQ3, l3, y3, z3⟩, st3⟩ := X2.virtualBack hx (y := oM22) (z := oM22) hown (mvT hZ (oW hw 163 rfl)) (mvT hZ (oW hw 164 rfl)) (notFace_of_selects (args := #[]) (mvT hZ (oW hw 166 rfl))) (mvT hZ (oW hw 166 rfl)) (mvT hZ (oW hw 165 rfl)) (by decide) (backOf (W := 0) (own_eld l Z a0 hw [] a i ed ke vs r h0 n0 Z0 F_a_elementData V_ed h10 hr) hZ (oW hw 167 rfl) (oW hw 44 rfl) (by decide) (by decide)) q3a q3c (g := (mkF m 11 #[.val (.ref a), .val (.int i)] [(.int i), (.ref a)])) rfl (by rw [hml]; rfl) (Steps.refl _) (argsL := [(.int i)]) (rest := []) (lenOf own_pd516517288 rfl) rfl (by show 2 * 0 + _ ≤ _; exact Nat.le_of_eq rfl) (hb hby own_d23_11) (fun _ _ => ⟨rfl, e2, (by decide : 0 + 0 ≤ 0), (by decide : 0 + 0 ≤ 0)⟩)
  dsimp only [Pt.U, Pt.locs, Pt.cells, Pt.slots] at X3 l3 y3 z3 st3 hQ3
  subst l3 y3 z3
  obtain ⟨hh3, eh03⟩ : ∃ z, T3.heap = z := ⟨_, rfl⟩
  rw [eh03] at hQ3
  obtain ⟨rfl, Nq3, eh3⟩ := hQ3
  have N3 := Fr.app N2 Nq3
  refine own_tr st3 ?_
  have e3 : T3.heap = h0 := eh03.trans eh3
  show own_Gl _ _ _ _ _ _ _ (T3.setTop (mkF m 14 #[.val (.ref a), .val (.int i)] [(.ref r)]))
  exact own_retA X3 hx hlk hret rfl rfl rfl (hb hby own_d23_14) e3 ⟨rfl, N3, rfl⟩ (by decide) (by decide)
theorem own_d27_0 : decode jdk_35_method_31_code 0 = .ok (.aload_n 0, 1) := by decide +kernel
theorem own_d27_1 : decode jdk_35_method_31_code 1 = .ok (.getfield 273, 3) := by decide +kernel
theorem own_d27_4 : decode jdk_35_method_31_code 4 = .ok (.lreturn, 1) := by decide +kernel
theorem own_ef_own_longv (m : MethodId) (x0 : Addr) : entryFrame m #[(.ref x0)] 1 = mkF m 0 #[.val (.ref x0)] [] := by first | (simp [entryFrame, mkF, argsToLocals, Value.category]; done) | rfl
def own_Q_own_longv (Z : State) (a : Addr) (pv : Int64) (h0 : Heap) (n0 : Nat) (v : Option Value) (h : Heap) (L : List Loc) : Prop := (v = some (.long pv)) ∧ (Fr n0 L) ∧ (h = h0)

theorem own_longv (l : Launch) (Z : State) (a0 : Array Value) (hw : oT a0 Z) (ws : List Jvm.Cond) (a : Addr) (pv : Int64) (h0 : Heap) (n0 : Nat) (Z0 : n0 ≤ h0.size) (F_a_value : Fld Z h0 a "java/lang/Long" "value" "J" (.long pv)) :
    oMet l oM24 jdk_35_method_31_code 1 (some .long) ws ⟨0, 0, 0, 0⟩ #[(.ref a)] Z h0 (own_Q_own_longv Z a pv h0 n0) := by
  refine oB n0 "java/lang/Long" rfl (plainFor_of_name own_pn15415774) (fun m => own_ef_own_longv m a) ?_
  intro p e s m below meth c s₁ hZ hx hby hlk hret hml hown hnm X0 e0 N0
  show own_Gl _ _ _ _ _ _ _ (s₁.setTop (mkF m 0 #[.val (.ref a)] []))
  refine own_st (fun _ k => XS.aloadN X0.here hx rfl (hb hby own_d27_0) rfl rfl k) ?_
  obtain ⟨T1, X1, e1, st1⟩ := getF X0 hx hZ hown (host := "") (Or.inl (oW hw 113 rfl)) Via.refl e0 F_a_value (g := (mkF m 1 #[.val (.ref a)] [(.ref a)])) rfl rfl (hb hby own_d27_1)
  refine own_st st1 ?_
  show own_Gl _ _ _ _ _ _ _ (T1.setTop (mkF m 4 #[.val (.ref a)] [(.long pv)]))
  exact own_retJ X1 hx hlk hret (hb hby own_d27_4) e1 ⟨rfl, N0, rfl⟩ (by decide) (by decide)
theorem own_d13_0 : decode method_5_code 0 = .ok (.iload_n 1, 1) := by decide +kernel
theorem own_d13_1 : decode method_5_code 1 = .ok (.aload_n 0, 1) := by decide +kernel
theorem own_d13_2 : decode method_5_code 2 = .ok (.invokeinterface 47 1, 5) := by decide +kernel
theorem own_pd691884 : parseMethodDescriptor "()I" = some ⟨[], some .int⟩ := by decide +kernel
theorem own_d13_7 : decode method_5_code 7 = .ok (.if_icmp .lt 5, 3) := by decide +kernel
theorem own_d13_12 : decode method_5_code 12 = .ok (.aload_n 0, 1) := by decide +kernel
theorem own_d13_13 : decode method_5_code 13 = .ok (.iload_n 1, 1) := by decide +kernel
theorem own_d13_14 : decode method_5_code 14 = .ok (.invokeinterface 57 2, 5) := by decide +kernel
theorem own_d13_19 : decode method_5_code 19 = .ok (.checkcast 61, 3) := by decide +kernel
theorem own_d13_22 : decode method_5_code 22 = .ok (.invokevirtual 63, 3) := by decide +kernel
theorem own_pd691885 : parseMethodDescriptor "()J" = some ⟨[], some .long⟩ := by decide +kernel
theorem own_d13_25 : decode method_5_code 25 = .ok (.lstore 4, 2) := by decide +kernel
theorem own_d13_27 : decode method_5_code 27 = .ok (.lload 4, 2) := by decide +kernel
theorem own_d13_29 : decode method_5_code 29 = .ok (.lload_n 2, 1) := by decide +kernel
theorem own_d13_30 : decode method_5_code 30 = .ok (.lsub, 1) := by decide +kernel
theorem own_d13_31 : decode method_5_code 31 = .ok (.lstore 6, 2) := by decide +kernel
theorem own_d13_33 : decode method_5_code 33 = .ok (.lload 6, 2) := by decide +kernel
theorem own_d13_35 : decode method_5_code 35 = .ok (.lconst 1, 1) := by decide +kernel
theorem own_d13_36 : decode method_5_code 36 = .ok (.lcmp, 1) := by decide +kernel
theorem own_d13_37 : decode method_5_code 37 = .ok (.ifCond .lt 12, 3) := by decide +kernel
theorem own_d13_40 : decode method_5_code 40 = .ok (.lload 6, 2) := by decide +kernel
theorem own_d13_42 : decode method_5_code 42 = .ok (.ldc2_w 37, 3) := by decide +kernel
theorem own_d13_45 : decode method_5_code 45 = .ok (.lcmp, 1) := by decide +kernel
theorem own_d13_46 : decode method_5_code 46 = .ok (.ifCond .le 6, 3) := by decide +kernel
theorem own_d13_52 : decode method_5_code 52 = .ok (.iconst 1, 1) := by decide +kernel
theorem own_d13_53 : decode method_5_code 53 = .ok (.lload 6, 2) := by decide +kernel
theorem own_d13_55 : decode method_5_code 55 = .ok (.lconst 1, 1) := by decide +kernel
theorem own_d13_56 : decode method_5_code 56 = .ok (.lsub, 1) := by decide +kernel
theorem own_d13_57 : decode method_5_code 57 = .ok (.l2i, 1) := by decide +kernel
theorem own_d13_58 : decode method_5_code 58 = .ok (.ishl, 1) := by decide +kernel
theorem own_d13_59 : decode method_5_code 59 = .ok (.ireturn, 1) := by decide +kernel
theorem own_d13_10 : decode method_5_code 10 = .ok (.iconst 0, 1) := by decide +kernel
theorem own_d13_11 : decode method_5_code 11 = .ok (.ireturn, 1) := by decide +kernel
theorem own_ef_own_bitOf (m : MethodId) (x0 : Addr) (x1 : Int32) (x2 : Int64) : entryFrame m #[(.ref x0), (.int x1), (.long x2)] 8 = mkF m 0 #[.val (.ref x0), .val (.int x1), .val (.long x2), .second, .unset, .unset, .unset, .unset] [] := by first | (simp [entryFrame, mkF, argsToLocals, Value.category]; done) | rfl
def own_Q_own_bitOf (Z : State) (li : Addr) (j : Int32) (b : Int64) (N : Int32) (k : Nat) (ds : List Nat) (h0 : Heap) (n0 : Nat) (v : Option Value) (h : Heap) (L : List Loc) : Prop := (v = some (.int (own_B ds k))) ∧ (Fr n0 L) ∧ (h = h0)
theorem own_pn307481716 : plainName "com/example/assayline/assayline/core/MessageIndexAddPinLaw" = true := by first | (simp [plainName, overriddenIn]; done) | decide +kernel

theorem own_bitOf (l : Launch) (Z : State) (a0 : Array Value) (hw : oT a0 Z) (ws : List Jvm.Cond) (li : Addr) (j : Int32) (b : Int64) (N : Int32) (k : Nat) (ds : List Nat) (h0 : Heap) (n0 : Nat) (Z0 : n0 ≤ h0.size) (E_li : Exa Z h0 li "java/util/ArrayList") (F_li_size : Fld Z h0 li "java/util/ArrayList" "size" "I" (.int N)) (hN : N = Int32.ofNat ds.length) (hl9 : ds.length ≤ 9) (hel : own_El Z h0 li (own_ofs b) ds) (hpos : ∀ d ∈ ds, 1 ≤ d ∧ d ≤ 9) (hjk : j = Int32.ofNat k) (hk : k ≤ 8) :
    oMet l oM25 method_5_code 8 (some .int) ws ⟨3, 0, 0, 40⟩ #[(.ref li), (.int j), (.long b)] Z h0 (own_Q_own_bitOf Z li j b N k ds h0 n0) := by
  refine oB n0 "com/example/assayline/assayline/core/MessageIndexAddPinLaw" rfl (plainFor_of_name own_pn307481716) (fun m => own_ef_own_bitOf m li j b) ?_
  intro p e s m below meth c s₁ hZ hx hby hlk hret hml hown hnm X0 e0 N0
  show own_Gl _ _ _ _ _ _ _ (s₁.setTop (mkF m 0 #[.val (.ref li), .val (.int j), .val (.long b), .second, .unset, .unset, .unset, .unset] []))
  refine own_st (fun _ k => XS.iloadN X0.here hx rfl (hb hby own_d13_0) rfl k) ?_
  refine own_st (fun _ k => XS.aloadN X0.here hx rfl (hb hby own_d13_1) rfl rfl k) ?_
  obtain ⟨cq1, kq1, q1a, q1b, q1c⟩ := isOf hZ e0 E_li
  obtain ⟨_, _, ⟨T1, L1, k1, n1⟩, -, X1, ⟨Lc1, hQ1, l1, y1, z1⟩, st1⟩ := X0.interfaceBack hx (xi := oM26) (y := oM19) hown (mvT hZ (oW hw 69 rfl)) (mvT hZ (oW hw 70 rfl)) (mvT hZ (oW hw 71 rfl)) (mvT hZ (oW hw 72 rfl)) (mvT hZ (oW hw 73 rfl)) (mvT hZ (oW hw 74 rfl)) (mvT hZ (oW hw 75 rfl)) (mvT hZ (oW hw 76 rfl)) (by decide) (backOf (W := 1) (own_size l Z a0 hw [] li N h0 n0 Z0 F_li_size) hZ (oW hw 77 rfl) (oW hw 44 rfl) (by decide) (by decide)) q1a q1b q1c (g := (mkF m 2 #[.val (.ref li), .val (.int j), .val (.long b), .second, .unset, .unset, .unset, .unset] [(.ref li), (.int j)])) rfl (by rw [hml]; rfl) (Steps.refl _) (argsL := []) (rest := [(.int j)]) (lenOf own_pd691884 rfl) rfl (by show 2 * 0 + _ ≤ _; exact Nat.le_of_eq rfl) (hb hby own_d13_2) (fun _ _ => ⟨rfl, e0, (by decide : 0 + 0 ≤ 0), (by decide : 0 + 0 ≤ 0)⟩)
  dsimp only [Pt.U, Pt.locs, Pt.cells, Pt.slots] at X1 l1 y1 z1 st1 hQ1
  subst l1 y1 z1
  obtain ⟨hh1, eh01⟩ : ∃ z, T1.heap = z := ⟨_, rfl⟩
  rw [eh01] at hQ1
  obtain ⟨rfl, Nq1, eh1⟩ := hQ1
  have N1 := Fr.app N0 Nq1
  refine own_tr st1 ?_
  have e1 : T1.heap = h0 := eh01.trans eh1
  by_cases hc7 : j < N
  · have hin : k < ds.length := (own_lt9 k ds.length (by omega) hl9).mp (by rw [← hjk, ← hN]; exact hc7)
    obtain ⟨ed, ke, rf, fed, ved, hhe⟩ := hel k hin
    obtain ⟨er, fr⟩ := hhe k hin
    obtain ⟨d, hd⟩ : ∃ q, q = ds.getD k 0 := ⟨_, rfl⟩
    rw [← hd] at fr
    have hd9 : 1 ≤ d ∧ d ≤ 9 := hpos d (by have q : ds.getD k 0 = ds[k] := (by simp [List.getD, hin]); rw [hd, q]; exact List.getElem_mem _)
    have hidx := own_idx hjk (Nat.le_trans hk (by decide))
    refine own_st (fun _ k => XS.icmpYes X1.here hx rfl (pc0 := 7) (pc' := 12) rfl (hb hby own_d13_7) rfl (tlt hc7).1 (by decide) (by decide) k) ?_
    show own_Gl _ _ _ _ _ _ _ (T1.setTop (mkF m 12 #[.val (.ref li), .val (.int j), .val (.long b), .second, .unset, .unset, .unset, .unset] []))
    refine own_st (fun _ k => XS.aloadN X1.here hx rfl (hb hby own_d13_12) rfl rfl k) ?_
    refine own_st (fun _ k => XS.iloadN X1.here hx rfl (hb hby own_d13_13) rfl k) ?_
    obtain ⟨cq2, kq2, q2a, q2b, q2c⟩ := isOf hZ e1 E_li
    obtain ⟨_, _, ⟨T2, L2, k2, n2⟩, -, X2, ⟨Lc2, hQ2, l2, y2, z2⟩, st2⟩ := X1.interfaceBack hx (xi := oM27) (y := oM23) hown (mvT hZ (oW hw 147 rfl)) (mvT hZ (oW hw 148 rfl)) (mvT hZ (oW hw 149 rfl)) (mvT hZ (oW hw 150 rfl)) (mvT hZ (oW hw 151 rfl)) (mvT hZ (oW hw 152 rfl)) (mvT hZ (oW hw 153 rfl)) (mvT hZ (oW hw 76 rfl)) (by decide) (backOf (W := 0) (own_get l Z a0 hw [] li j ed ke (own_rl ds.length rf) (rf k) N h0 n0 Z0 E_li F_li_size fed ved hidx.1 (by rw [hidx.2.1]; exact own_rl_get _ _ _ _ hin (by omega)) ⟨hidx.1.1, hc7⟩) hZ (oW hw 154 rfl) (oW hw 44 rfl) (by decide) (by decide)) q2a q2b q2c (g := (mkF m 14 #[.val (.ref li), .val (.int j), .val (.long b), .second, .unset, .unset, .unset, .unset] [(.int j), (.ref li)])) rfl (by rw [hml]; rfl) (Steps.refl _) (argsL := [(.int j)]) (rest := []) (lenOf own_pd516517288 rfl) rfl (by show 2 * 0 + _ ≤ _; exact Nat.le_of_eq rfl) (hb hby own_d13_14) (fun _ _ => ⟨rfl, e1, (by decide : 0 + 0 ≤ 0), (by decide : 0 + 0 ≤ 0)⟩)
    dsimp only [Pt.U, Pt.locs, Pt.cells, Pt.slots] at X2 l2 y2 z2 st2 hQ2
    subst l2 y2 z2
    obtain ⟨hh2, eh02⟩ : ∃ z, T2.heap = z := ⟨_, rfl⟩
    rw [eh02] at hQ2
    obtain ⟨rfl, Nq2, eh2⟩ := hQ2
    have N2 := Fr.app N1 Nq2
    refine own_tr st2 ?_
    have e2 : T2.heap = h0 := eh02.trans eh2
    obtain ⟨T3, X3, e3, st3⟩ := castY X2 hx hZ hown (oW hw 168 rfl) e2 (Ins.self er) (g := (mkF m 19 #[.val (.ref li), .val (.int j), .val (.long b), .second, .unset, .unset, .unset, .unset] [(.ref (rf k))])) rfl rfl (hb hby own_d13_19)
    refine own_st st3 ?_
    show own_Gl _ _ _ _ _ _ _ (T3.setTop (mkF m 22 #[.val (.ref li), .val (.int j), .val (.long b), .second, .unset, .unset, .unset, .unset] [(.ref (rf k))]))
    obtain ⟨cq4, kq4, q4a, q4b, q4c⟩ := isOf hZ e3 er
    obtain ⟨_, _, ⟨T4, L4, k4, n4⟩, -, X4, ⟨Lc4, hQ4, l4, y4, z4⟩, st4⟩ := X3.virtualBack hx (y := oM24) (z := oM24) hown (mvT hZ (oW hw 169 rfl)) (mvT hZ (oW hw 170 rfl)) (notFace_of_selects (args := #[]) (mvT hZ (oW hw 172 rfl))) (mvT hZ (oW hw 172 rfl)) (mvT hZ (oW hw 171 rfl)) (by decide) (backOf (W := 0) (own_longv l Z a0 hw [] (rf k) (own_ofs b d) h0 n0 Z0 fr) hZ (oW hw 173 rfl) (oW hw 96 rfl) (by decide) (by decide)) q4a q4c (g := (mkF m 22 #[.val (.ref li), .val (.int j), .val (.long b), .second, .unset, .unset, .unset, .unset] [(.ref (rf k))])) rfl (by rw [hml]; rfl) (Steps.refl _) (argsL := []) (rest := []) (lenOf own_pd691885 rfl) rfl (by show 2 * 0 + _ ≤ _; exact Nat.le_of_eq rfl) (hb hby own_d13_22) (fun _ _ => ⟨rfl, e3, (by decide : 0 + 0 ≤ 0), (by decide : 0 + 0 ≤ 0)⟩)
    dsimp only [Pt.U, Pt.locs, Pt.cells, Pt.slots] at X4 l4 y4 z4 st4 hQ4
    subst l4 y4 z4
    obtain ⟨hh4, eh04⟩ : ∃ z, T4.heap = z := ⟨_, rfl⟩
    rw [eh04] at hQ4
    obtain ⟨rfl, Nq4, eh4⟩ := hQ4
    have N4 := Fr.app N2 Nq4
    refine own_tr st4 ?_
    have e4 : T4.heap = h0 := eh04.trans eh4
    refine own_st (fun _ k => XS.lstore X4.here hx rfl (hb hby own_d13_25) rfl (l' := #[.val (.ref li), .val (.int j), .val (.long b), .second, .val (.long (own_ofs b d)), .second, .unset, .unset]) rfl k) ?_
    refine own_st (fun _ k => XS.lload X4.here hx rfl (hb hby own_d13_27) rfl k) ?_
    refine own_st (fun _ k => XS.lloadN X4.here hx rfl (hb hby own_d13_29) rfl k) ?_
    show own_Gl _ _ _ _ _ _ _ (T4.setTop (mkF m 30 #[.val (.ref li), .val (.int j), .val (.long b), .second, .val (.long (own_ofs b d)), .second, .unset, .unset] [(.long b), (.long (own_ofs b d))]))
    refine own_st (fun _ k => XS.lsub X4.here hx rfl (hb hby own_d13_30) rfl k) ?_
    refine own_st (fun _ k => XS.lstore X4.here hx rfl (hb hby own_d13_31) rfl (l' := #[.val (.ref li), .val (.int j), .val (.long b), .second, .val (.long (own_ofs b d)), .second, .val (.long ((own_ofs b d) - b)), .second]) rfl k) ?_
    have hdf : ((own_ofs b d) - b) = Int64.ofNat d := own_dif b d hd9
    rw [hdf]
    show own_Gl _ _ _ _ _ _ _ (T4.setTop (mkF m 33 #[.val (.ref li), .val (.int j), .val (.long b), .second, .val (.long (own_ofs b d)), .second, .val (.long (Int64.ofNat d)), .second] []))
    refine own_st (fun _ k => XS.lload X4.here hx rfl (hb hby own_d13_33) rfl k) ?_
    refine own_st (fun _ k => XS.lconst X4.here hx rfl (hb hby own_d13_35) k) ?_
    refine own_st (fun _ k => XS.lcmp X4.here hx rfl (hb hby own_d13_36) rfl k) ?_
    have hd5 : ¬ ((Int64.ofNat d) < (1 : Int64)) := (own_dif1 d hd9).1
    refine own_st (fun _ k => XS.ifNo X4.here hx rfl (hb hby own_d13_37) rfl ((if0 _ _).trans (flt (mt (lw_lt _ _).mp hd5)).1) k) ?_
    show own_Gl _ _ _ _ _ _ _ (T4.setTop (mkF m 40 #[.val (.ref li), .val (.int j), .val (.long b), .second, .val (.long (own_ofs b d)), .second, .val (.long (Int64.ofNat d)), .second] []))
    refine own_st (fun _ k => XS.lload X4.here hx rfl (hb hby own_d13_40) rfl k) ?_
    refine own_st (X4.ldc2Long hx hown (mvT hZ (oW hw 174 rfl)) (g := (mkF m 42 #[.val (.ref li), .val (.int j), .val (.long b), .second, .val (.long (own_ofs b d)), .second, .val (.long (Int64.ofNat d)), .second] [(.long (Int64.ofNat d))])) rfl (hb hby own_d13_42)) ?_
    refine own_st (fun _ k => XS.lcmp X4.here hx rfl (hb hby own_d13_45) rfl k) ?_
    have hd6 : ¬ ((9 : Int64) < (Int64.ofNat d)) := (own_dif1 d hd9).2.1
    refine own_st (fun _ k => XS.ifYes X4.here hx rfl (pc0 := 46) (pc' := 52) rfl (hb hby own_d13_46) rfl ((if0 _ _).trans (flt (mt (lw_gt _ _).mp hd6)).2.2.2) (by decide) (by decide) k) ?_
    show own_Gl _ _ _ _ _ _ _ (T4.setTop (mkF m 52 #[.val (.ref li), .val (.int j), .val (.long b), .second, .val (.long (own_ofs b d)), .second, .val (.long (Int64.ofNat d)), .second] []))
    refine own_st (fun _ k => XS.iconst X4.here hx rfl (hb hby own_d13_52) k) ?_
    refine own_st (fun _ k => XS.lload X4.here hx rfl (hb hby own_d13_53) rfl k) ?_
    refine own_st (fun _ k => XS.lconst X4.here hx rfl (hb hby own_d13_55) k) ?_
    refine own_st (fun _ k => XS.lsub X4.here hx rfl (hb hby own_d13_56) rfl k) ?_
    show own_Gl _ _ _ _ _ _ _ (T4.setTop (mkF m 57 #[.val (.ref li), .val (.int j), .val (.long b), .second, .val (.long (own_ofs b d)), .second, .val (.long (Int64.ofNat d)), .second] [(.long ((Int64.ofNat d) - (1 : Int64))), (.int 1)]))
    refine own_st (fun _ k => XS.l2i X4.here hx rfl (hb hby own_d13_57) rfl k) ?_
    refine own_st (fun _ k => XS.ishl X4.here hx rfl (hb hby own_d13_58) rfl k) ?_
    show own_Gl _ _ _ _ _ _ _ (T4.setTop (mkF m 59 #[.val (.ref li), .val (.int j), .val (.long b), .second, .val (.long (own_ofs b d)), .second, .val (.long (Int64.ofNat d)), .second] [(.int ((1 : Int32) <<< ((((Int64.ofNat d) - (1 : Int64)).toInt32) &&& 31)))]))
    exact own_retI X4 hx hlk hret (hb hby own_d13_59) e4 ⟨(congrArg some (congrArg Value.int ((own_dif1 d hd9).2.2.trans (by rw [own_B, if_pos hin, hd])))), N4, rfl⟩ (by decide) (by decide)
  · refine own_st (fun _ k => XS.icmpNo X1.here hx rfl (hb hby own_d13_7) rfl (flt hc7).1 k) ?_
    show own_Gl _ _ _ _ _ _ _ (T1.setTop (mkF m 10 #[.val (.ref li), .val (.int j), .val (.long b), .second, .unset, .unset, .unset, .unset] []))
    refine own_st (fun _ k => XS.iconst X1.here hx rfl (hb hby own_d13_10) k) ?_
    show own_Gl _ _ _ _ _ _ _ (T1.setTop (mkF m 11 #[.val (.ref li), .val (.int j), .val (.long b), .second, .unset, .unset, .unset, .unset] [(.int 0)]))
    exact own_retI X1 hx hlk hret (hb hby own_d13_11) e1 ⟨(congrArg some (congrArg Value.int (by rw [own_B, if_neg (fun q => hc7 (by rw [hjk, hN]; exact (own_lt9 k ds.length (by omega) hl9).mpr q))]))), N1, rfl⟩ (by decide) (by decide)
theorem own_d11_0 : decode method_3_code 0 = .ok (.iload_n 0, 1) := by decide +kernel
theorem own_d11_1 : decode method_3_code 1 = .ok (.iload_n 1, 1) := by decide +kernel
theorem own_d11_2 : decode method_3_code 2 = .ok (.iushr, 1) := by decide +kernel
theorem own_d11_3 : decode method_3_code 3 = .ok (.iconst 1, 1) := by decide +kernel
theorem own_d11_4 : decode method_3_code 4 = .ok (.iand, 1) := by decide +kernel
theorem own_d11_5 : decode method_3_code 5 = .ok (.ireturn, 1) := by decide +kernel
theorem own_ef_own_bitb (m : MethodId) (x0 : Int32) (x1 : Int32) : entryFrame m #[(.int x0), (.int x1)] 2 = mkF m 0 #[.val (.int x0), .val (.int x1)] [] := by first | (simp [entryFrame, mkF, argsToLocals, Value.category]; done) | rfl
def own_Q_own_bitb (Z : State) (x : Int32) (i : Int32) (h0 : Heap) (n0 : Nat) (v : Option Value) (h : Heap) (L : List Loc) : Prop := (v = some (.int (own_bit x i))) ∧ (Fr n0 L) ∧ (h = h0)

theorem own_bitb (l : Launch) (Z : State) (a0 : Array Value) (hw : oT a0 Z) (ws : List Jvm.Cond) (x : Int32) (i : Int32) (h0 : Heap) (n0 : Nat) (Z0 : n0 ≤ h0.size) :
    oMet l oM28 method_3_code 2 (some .int) ws ⟨0, 0, 0, 0⟩ #[(.int x), (.int i)] Z h0 (own_Q_own_bitb Z x i h0 n0) := by
  refine oB n0 "com/example/assayline/assayline/core/MessageIndexAddPinLaw" rfl (plainFor_of_name own_pn307481716) (fun m => own_ef_own_bitb m x i) ?_
  intro p e s m below meth c s₁ hZ hx hby hlk hret hml hown hnm X0 e0 N0
  show own_Gl _ _ _ _ _ _ _ (s₁.setTop (mkF m 0 #[.val (.int x), .val (.int i)] []))
  refine own_st (fun _ k => XS.iloadN X0.here hx rfl (hb hby own_d11_0) rfl k) ?_
  refine own_st (fun _ k => XS.iloadN X0.here hx rfl (hb hby own_d11_1) rfl k) ?_
  refine own_st (fun _ k => XS.iushr X0.here hx rfl (hb hby own_d11_2) rfl k) ?_
  refine own_st (fun _ k => XS.iconst X0.here hx rfl (hb hby own_d11_3) k) ?_
  show own_Gl _ _ _ _ _ _ _ (s₁.setTop (mkF m 4 #[.val (.int x), .val (.int i)] [(.int 1), (.int ((x.toUInt32 >>> (i &&& 31).toUInt32).toInt32))]))
  refine own_st (fun _ k => XS.iand X0.here hx rfl (hb hby own_d11_4) rfl k) ?_
  show own_Gl _ _ _ _ _ _ _ (s₁.setTop (mkF m 5 #[.val (.int x), .val (.int i)] [(.int (((x.toUInt32 >>> (i &&& 31).toUInt32).toInt32) &&& (1 : Int32)))]))
  exact own_retI X0 hx hlk hret (hb hby own_d11_5) e0 ⟨rfl, N0, rfl⟩ (by decide) (by decide)
theorem own_d3_0 : decode method_4_code 0 = .ok (.iload_n 0, 1) := by decide +kernel
theorem own_d3_1 : decode method_4_code 1 = .ok (.iload_n 1, 1) := by decide +kernel
theorem own_d3_2 : decode method_4_code 2 = .ok (.iushr, 1) := by decide +kernel
theorem own_d3_3 : decode method_4_code 3 = .ok (.iconst 1, 1) := by decide +kernel
theorem own_d3_4 : decode method_4_code 4 = .ok (.iand, 1) := by decide +kernel
theorem own_d3_5 : decode method_4_code 5 = .ok (.ifCond .eq 5, 3) := by decide +kernel
theorem own_d3_10 : decode method_4_code 10 = .ok (.iload_n 3, 1) := by decide +kernel
theorem own_d3_11 : decode method_4_code 11 = .ok (.ireturn, 1) := by decide +kernel
theorem own_d3_8 : decode method_4_code 8 = .ok (.iload_n 2, 1) := by decide +kernel
theorem own_d3_9 : decode method_4_code 9 = .ok (.ireturn, 1) := by decide +kernel
theorem own_ef_own_hashOf (m : MethodId) (x0 : Int32) (x1 : Int32) (x2 : Int32) (x3 : Int32) : entryFrame m #[(.int x0), (.int x1), (.int x2), (.int x3)] 4 = mkF m 0 #[.val (.int x0), .val (.int x1), .val (.int x2), .val (.int x3)] [] := by first | (simp [entryFrame, mkF, argsToLocals, Value.category]; done) | rfl
def own_Q_own_hashOf (Z : State) (k : Int32) (i : Int32) (h1 : Int32) (g : Int32) (h0 : Heap) (n0 : Nat) (v : Option Value) (h : Heap) (L : List Loc) : Prop := (v = some (.int (own_hq k i h1 g))) ∧ (Fr n0 L) ∧ (h = h0)

theorem own_hashOf (l : Launch) (Z : State) (a0 : Array Value) (hw : oT a0 Z) (ws : List Jvm.Cond) (k : Int32) (i : Int32) (h1 : Int32) (g : Int32) (h0 : Heap) (n0 : Nat) (Z0 : n0 ≤ h0.size) :
    oMet l oM29 method_4_code 4 (some .int) ws ⟨0, 0, 0, 0⟩ #[(.int k), (.int i), (.int h1), (.int g)] Z h0 (own_Q_own_hashOf Z k i h1 g h0 n0) := by
  refine oB n0 "com/example/assayline/assayline/core/MessageIndexAddPinLaw" rfl (plainFor_of_name own_pn307481716) (fun m => own_ef_own_hashOf m k i h1 g) ?_
  intro p e s m below meth c s₁ hZ hx hby hlk hret hml hown hnm X0 e0 N0
  show own_Gl _ _ _ _ _ _ _ (s₁.setTop (mkF m 0 #[.val (.int k), .val (.int i), .val (.int h1), .val (.int g)] []))
  refine own_st (fun _ k => XS.iloadN X0.here hx rfl (hb hby own_d3_0) rfl k) ?_
  refine own_st (fun _ k => XS.iloadN X0.here hx rfl (hb hby own_d3_1) rfl k) ?_
  refine own_st (fun _ k => XS.iushr X0.here hx rfl (hb hby own_d3_2) rfl k) ?_
  refine own_st (fun _ k => XS.iconst X0.here hx rfl (hb hby own_d3_3) k) ?_
  show own_Gl _ _ _ _ _ _ _ (s₁.setTop (mkF m 4 #[.val (.int k), .val (.int i), .val (.int h1), .val (.int g)] [(.int 1), (.int ((k.toUInt32 >>> (i &&& 31).toUInt32).toInt32))]))
  refine own_st (fun _ k => XS.iand X0.here hx rfl (hb hby own_d3_4) rfl k) ?_
  by_cases hc5 : (((k.toUInt32 >>> (i &&& 31).toUInt32).toInt32) &&& (1 : Int32)) = (0 : Int32)
  · refine own_st (fun _ k => XS.ifYes X0.here hx rfl (pc0 := 5) (pc' := 10) rfl (hb hby own_d3_5) rfl ((if0 _ _).trans (teq hc5).1) (by decide) (by decide) k) ?_
    refine own_st (fun _ k => XS.iloadN X0.here hx rfl (hb hby own_d3_10) rfl k) ?_
    show own_Gl _ _ _ _ _ _ _ (s₁.setTop (mkF m 11 #[.val (.int k), .val (.int i), .val (.int h1), .val (.int g)] [(.int g)]))
    exact own_retI X0 hx hlk hret (hb hby own_d3_11) e0 ⟨by rw [own_hq, if_pos hc5] <;> rfl, N0, rfl⟩ (by decide) (by decide)
  · refine own_st (fun _ k => XS.ifNo X0.here hx rfl (hb hby own_d3_5) rfl ((if0 _ _).trans (feq hc5).1) k) ?_
    refine own_st (fun _ k => XS.iloadN X0.here hx rfl (hb hby own_d3_8) rfl k) ?_
    show own_Gl _ _ _ _ _ _ _ (s₁.setTop (mkF m 9 #[.val (.int k), .val (.int i), .val (.int h1), .val (.int g)] [(.int h1)]))
    exact own_retI X0 hx hlk hret (hb hby own_d3_9) e0 ⟨by rw [own_hq, if_neg hc5] <;> rfl, N0, rfl⟩ (by decide) (by decide)
theorem own_pd180799448 : parseMethodDescriptor "(I)Ljava/util/List;" = some ⟨[.int], some (.object "java/util/List")⟩ := by decide +kernel
theorem own_pd167020003 : parseMethodDescriptor "(Ljava/util/List;IJ)I" = some ⟨[(.object "java/util/List"), .int, .long], some .int⟩ := by decide +kernel
theorem own_pd492378836 : parseMethodDescriptor "(IIII)I" = some ⟨[.int, .int, .int, .int], some .int⟩ := by decide +kernel
theorem own_ef_own_law (m : MethodId) (x0 : Int32) (x1 : Int32) (x2 : Int32) (x3 : Int32) (x4 : Int64) : entryFrame m #[(.int x0), (.int x1), (.int x2), (.int x3), (.long x4)] maxLocals = mkF m 0 #[.val (.int x0), .val (.int x1), .val (.int x2), .val (.int x3), .val (.long x4), .second, .unset, .unset, .unset, .unset, .unset, .unset, .unset, .unset, .unset, .unset, .unset, .unset, .unset, .unset, .unset, .unset, .unset, .unset, .unset] [] := by first | (simp [entryFrame, mkF, argsToLocals, Value.category, maxLocals]; done) | rfl
def own_Q_own_law (Z : State) (p1 : Int32) (p2 : Int32) (p3 : Int32) (p4 : Int32) (p5 : Int64) (de : Addr) (kd : ClassId) (ca : Addr) (ccl : Cell) (h0 : Heap) (n0 : Nat) (v : Option Value) (h : Heap) (L : List Loc) : Prop := v = some (.int 1) ∧ Fr n0 L
theorem own_own_law_L9 (l : Launch) (Z : State) (a0 : Array Value) (hw : oT a0 Z) (p1 : Int32) (p2 : Int32) (p3 : Int32) (p4 : Int32) (p5 : Int64) (de : Addr) (kd : ClassId) (ca : Addr) (ccl : Cell) (h0 : Heap) (n0 : Nat) (Z0 : n0 ≤ h0.size) (Old0 : Old Z n0 h0) (S_DEFAULTCAPACITY_EMPTY_ELEMENTDATA : Sta Z Z.heap "java/util/ArrayList" "DEFAULTCAPACITY_EMPTY_ELEMENTDATA" "[Ljava/lang/Object;" (.ref de)) (hdeZ : Arv Z Z.heap de kd (.object "java/lang/Object") (0 : Int32) [] .null) (S_cache : Sta Z Z.heap "java/lang/Long$LongCache" "cache" "[Ljava/lang/Long;" (.ref ca)) (hcaZ : Arr Z Z.heap ca ccl (.object "java/lang/Long")) (hcs : ccl.slots.size = (256 : Int32).toNatClampNeg) (hcacheZ : ∀ j : Int32, ¬ j < 0 → j < (256 : Int32) → ∃ r : Addr, ccl.slots[j.toNatClampNeg]? = some (.ref r) ∧ Exa Z Z.heap r "java/lang/Long" ∧ Fld Z Z.heap r "java/lang/Long" "value" "J" (.long (j - (128 : Int32)).toInt64)) {p : Program} {e : Env} {s : State} {m : MethodId} {below : List Frame} {meth : Method} {c : Code} (hZ : Z.Warmed39 s.vm) (hx : p.tables.exec = Jvm.exec) (hby : c.code = code) (hlk : meth.locks = false) (hret : meth.sig.returnType = some .boolean) (hml : c.maxLocals = 25) (hown : s.vm.findClass "com/example/assayline/assayline/core/MessageIndexAddPinLaw" = some m.cls) (c9 : Nat) (hc9 : c9 ≤ 9) (g : Int32) (hgn : ¬ g = p1) (hof9 : ∀ i, i ≤ 9 → ((own_ofs (own_base p5)) i = 0 ↔ i = 0) ∧ (own_ofs (own_base p5)) i < (9223372036854775807 : Int64)) :
    ∀ (T9 : State) (LL9 : List Loc) (N9 : Fr n0 LL9) (X9 : Stand p l e room_1 s m #[(.int p1), (.int p2), (.int p3), (.int p4), (.long p5)] below meth c T9 LL9 5 99) (h9 : Heap) (e9 : T9.heap = h9) (ai : Addr) (z : Int32) (ob : Addr) (sb : Addr) (ko : ClassId) (kh : ClassId) (f : Nat → Nat) (Zs9 : n0 ≤ h9.size) (Kj9 : Keep h0 h9 []) (fj9_0 : Exa Z h9 ai "com/example/assayline/assayline/core/MessageIndex") (fj9_1 : Fld Z h9 ai "com/example/assayline/assayline/core/MessageIndex" "offsets" "[J" (.ref ob)) (fj9_2 : Fld Z h9 ai "com/example/assayline/assayline/core/MessageIndex" "hashes" "[I" (.ref sb)) (fj9_3 : Arv Z h9 ob ko .long z (own_fj z.toNatClampNeg (fun p => (own_ofs (own_base p5)) (f p))) (.long (0 : Int64))) (fj9_4 : Arv Z h9 sb kh .int z (own_fl z.toNatClampNeg (fun p => (own_hs p3 p1 g) (f p))) (.int 0)) (fj9_5 : Old Z n0 h9) (hz : z = (16 : Int32) ∨ z = (32 : Int32)) (hok : own_ok (own_q (own_hs p3 p1 g) z) z.toNatClampNeg f (own_S c9) c9), own_Gl p e below s (own_Q_own_law Z p1 p2 p3 p4 p5 de kd ca ccl h0 n0) room_1.cells room_1.slots (T9.setTop (mkF m 263 #[.val (.int p1), .val (.int p2), .val (.int p3), .val (.int p4), .val (.long p5), .second, .val (.int (Int32.ofNat c9)), .val (.int g), .val (.long (own_base p5)), .second, .val (.ref ai), .unset, .unset, .unset, .unset, .unset, .unset, .unset, .unset, .unset, .unset, .unset, .unset, .unset, .unset] [])) := by
  intro T9 LL9 N9 X9 h9 e9 ai z ob sb ko kh f Zs9 Kj9 fj9_0 fj9_1 fj9_2 fj9_3 fj9_4 fj9_5 hz hok
  show own_Gl _ _ _ _ _ _ _ (T9.setTop (mkF m 263 #[.val (.int p1), .val (.int p2), .val (.int p3), .val (.int p4), .val (.long p5), .second, .val (.int (Int32.ofNat c9)), .val (.int g), .val (.long (own_base p5)), .second, .val (.ref ai), .unset, .unset, .unset, .unset, .unset, .unset, .unset, .unset, .unset, .unset, .unset, .unset, .unset, .unset] []))
  refine own_st (fun _ k => XS.aload X9.here hx rfl (hb hby at_263) rfl rfl k) ?_
  refine own_st (fun _ k => XS.iloadN X9.here hx rfl (hb hby at_265) rfl k) ?_
  obtain ⟨cq10, kq10, q10a, q10b, q10c⟩ := isOf hZ e9 fj9_0
  obtain ⟨_, _, ⟨T10, L10, k10, n10⟩, -, X10, ⟨Lc10, hQ10, l10, y10, z10⟩, st10⟩ := X9.virtualBack hx (y := oM17) (z := oM17) hown (mvT hZ (oW hw 37 rfl)) (mvT hZ (oW hw 38 rfl)) (notFace_of_selects (args := #[]) (mvT hZ (oW hw 40 rfl))) (mvT hZ (oW hw 40 rfl)) (mvT hZ (oW hw 39 rfl)) (by decide) (backOf (W := 0) (own_off l Z a0 hw [] ai p1 ob sb ko kh z f (own_ofs (own_base p5)) (own_hs p3 p1 g) (own_S c9) c9 de kd ca ccl h9 n0 Zs9 fj9_0 fj9_1 fj9_2 fj9_3 fj9_4 hz hof9 hok (Nat.lt_of_le_of_lt hc9 (Nat.lt_of_lt_of_le (by decide) (own_zpos hz).2.2)) fj9_5 S_DEFAULTCAPACITY_EMPTY_ELEMENTDATA hdeZ S_cache hcaZ hcs hcacheZ) hZ (oW hw 41 rfl) (oW hw 4 rfl) (by decide) (by decide)) q10a q10c (g := (mkF m 266 #[.val (.int p1), .val (.int p2), .val (.int p3), .val (.int p4), .val (.long p5), .second, .val (.int (Int32.ofNat c9)), .val (.int g), .val (.long (own_base p5)), .second, .val (.ref ai), .unset, .unset, .unset, .unset, .unset, .unset, .unset, .unset, .unset, .unset, .unset, .unset, .unset, .unset] [(.int p1), (.ref ai)])) rfl (by rw [hml]; rfl) (Steps.refl _) (argsL := [(.int p1)]) (rest := []) (lenOf own_pd180799448 rfl) rfl (by show 2 * 0 + _ ≤ _; exact Nat.le_of_eq rfl) (hb hby at_266) (fun _ _ => ⟨rfl, e9, (by decide : 5 + 11 ≤ room_1.cells), (by decide : 99 + 22 ≤ room_1.slots)⟩)
  dsimp only [Pt.U, Pt.locs, Pt.cells, Pt.slots] at X10 l10 y10 z10 st10 hQ10
  subst l10 y10 z10
  obtain ⟨hh10, eh010⟩ : ∃ z, T10.heap = z := ⟨_, rfl⟩
  rw [eh010] at hQ10
  obtain ⟨li_10, N_10, ds_10, rfl, Nq10, Kq10, P10_0, P10_1, P10_2, P10_3, P10_4, P10_5, P10_6⟩ := hQ10
  have N10 := Fr.app N9 Nq10
  refine own_tr st10 ?_
  have Zs11 : n0 ≤ hh10.size := Nat.le_trans Zs9 Kq10.1
  refine own_st (fun _ k => XS.astore X10.here hx rfl (hb hby at_269) rfl rfl (l' := #[.val (.int p1), .val (.int p2), .val (.int p3), .val (.int p4), .val (.long p5), .second, .val (.int (Int32.ofNat c9)), .val (.int g), .val (.long (own_base p5)), .second, .val (.ref ai), .val (.ref li_10), .unset, .unset, .unset, .unset, .unset, .unset, .unset, .unset, .unset, .unset, .unset, .unset, .unset]) rfl k) ?_
  show own_Gl _ _ _ _ _ _ _ (T10.setTop (mkF m 271 #[.val (.int p1), .val (.int p2), .val (.int p3), .val (.int p4), .val (.long p5), .second, .val (.int (Int32.ofNat c9)), .val (.int g), .val (.long (own_base p5)), .second, .val (.ref ai), .val (.ref li_10), .unset, .unset, .unset, .unset, .unset, .unset, .unset, .unset, .unset, .unset, .unset, .unset, .unset] []))
  refine own_st (fun _ k => XS.iloadN X10.here hx rfl (hb hby at_271) rfl k) ?_
  refine own_st (fun _ k => XS.iconst X10.here hx rfl (hb hby at_272) k) ?_
  refine own_st (fun _ k => XS.iload X10.here hx rfl (hb hby at_273) rfl k) ?_
  refine own_st (fun _ k => XS.ishl X10.here hx rfl (hb hby at_275) rfl k) ?_
  show own_Gl _ _ _ _ _ _ _ (T10.setTop (mkF m 276 #[.val (.int p1), .val (.int p2), .val (.int p3), .val (.int p4), .val (.long p5), .second, .val (.int (Int32.ofNat c9)), .val (.int g), .val (.long (own_base p5)), .second, .val (.ref ai), .val (.ref li_10), .unset, .unset, .unset, .unset, .unset, .unset, .unset, .unset, .unset, .unset, .unset, .unset, .unset] [(.int ((1 : Int32) <<< ((Int32.ofNat c9) &&& 31))), (.int p3)]))
  refine own_st (fun _ k => XS.iconst X10.here hx rfl (hb hby at_276) k) ?_
  refine own_st (fun _ k => XS.isub X10.here hx rfl (hb hby at_277) rfl k) ?_
  refine own_st (fun _ k => XS.iand X10.here hx rfl (hb hby at_278) rfl k) ?_
  refine own_st (fun _ k => XS.istore X10.here hx rfl (hb hby at_279) rfl (l' := #[.val (.int p1), .val (.int p2), .val (.int p3), .val (.int p4), .val (.long p5), .second, .val (.int (Int32.ofNat c9)), .val (.int g), .val (.long (own_base p5)), .second, .val (.ref ai), .val (.ref li_10), .val (.int (p3 &&& (((1 : Int32) <<< ((Int32.ofNat c9) &&& 31)) - (1 : Int32)))), .unset, .unset, .unset, .unset, .unset, .unset, .unset, .unset, .unset, .unset, .unset, .unset]) rfl k) ?_
  show own_Gl _ _ _ _ _ _ _ (T10.setTop (mkF m 281 #[.val (.int p1), .val (.int p2), .val (.int p3), .val (.int p4), .val (.long p5), .second, .val (.int (Int32.ofNat c9)), .val (.int g), .val (.long (own_base p5)), .second, .val (.ref ai), .val (.ref li_10), .val (.int (p3 &&& (((1 : Int32) <<< ((Int32.ofNat c9) &&& 31)) - (1 : Int32)))), .unset, .unset, .unset, .unset, .unset, .unset, .unset, .unset, .unset, .unset, .unset, .unset] []))
  obtain ⟨v9, hv9, hev, hvb⟩ := own_exp p3 c9 hc9
  have hev2 : (p3 &&& (((1 : Int32) <<< ((Int32.ofNat c9) &&& 31)) - (1 : Int32))) = Int32.ofNat v9 := hev
  rw [hev2]
  have hmm := own_link hgn hc9 hvb P10_4
  obtain ⟨hf1, hf2, hf3⟩ := own_fin _ P10_3 v9 hv9 hmm
  show own_Gl _ _ _ _ _ _ _ (T10.setTop (mkF m 281 #[.val (.int p1), .val (.int p2), .val (.int p3), .val (.int p4), .val (.long p5), .second, .val (.int (Int32.ofNat c9)), .val (.int g), .val (.long (own_base p5)), .second, .val (.ref ai), .val (.ref li_10), .val (.int (Int32.ofNat v9)), .unset, .unset, .unset, .unset, .unset, .unset, .unset, .unset, .unset, .unset, .unset, .unset] []))
  refine own_st (fun _ k => XS.iload X10.here hx rfl (hb hby at_281) rfl k) ?_
  refine own_st (fun _ k => XS.iconst X10.here hx rfl (hb hby at_283) k) ?_
  have f13 := (fj9_0.keep Kq10)
  have f14 := (fj9_3.keep Kq10 nin0)
  have f15 := (fj9_4.keep Kq10 nin0)
  obtain ⟨_, _, ⟨T12, L12, k12, n12⟩, -, X12, ⟨Lc12, hQ12, l12, y12, z12⟩, st12⟩ := Jvm.LawKit.callS X10 hx (y := oM28) hown (mvT hZ (oW hw 66 rfl)) (mvT hZ (oW hw 67 rfl)) (mvT hZ (oW hw 19 rfl)) (mvT hZ (oW hw 68 rfl)) (by decide) (backOf (W := 0) (own_bitb l Z a0 hw [] (Int32.ofNat v9) (0 : Int32) hh10 n0 Zs11 ) hZ (oW hw 68 rfl) (oW hw 19 rfl) (by decide) (by decide)) (g := (mkF m 284 #[.val (.int p1), .val (.int p2), .val (.int p3), .val (.int p4), .val (.long p5), .second, .val (.int (Int32.ofNat c9)), .val (.int g), .val (.long (own_base p5)), .second, .val (.ref ai), .val (.ref li_10), .val (.int (Int32.ofNat v9)), .unset, .unset, .unset, .unset, .unset, .unset, .unset, .unset, .unset, .unset, .unset, .unset] [(.int 0), (.int (Int32.ofNat v9))])) rfl (by rw [hml]; rfl) (argsL := [(.int (Int32.ofNat v9)), (.int 0)]) (rest := []) (lenOf own_pd945365680 rfl) rfl (by show 2 * 0 + _ ≤ _; exact Nat.le_of_eq rfl) (hb hby at_284) (fun _ _ => ⟨rfl, eh010, (by decide : 16 + 0 ≤ room_1.cells), (by decide : 121 + 0 ≤ room_1.slots)⟩)
  dsimp only [Pt.U, Pt.locs, Pt.cells, Pt.slots] at X12 l12 y12 z12 st12 hQ12
  subst l12 y12 z12
  obtain ⟨hh12, eh012⟩ : ∃ z, T12.heap = z := ⟨_, rfl⟩
  rw [eh012] at hQ12
  obtain ⟨rfl, Nq12, eh12⟩ := hQ12
  have N12 := Fr.app N10 Nq12
  refine own_st st12 ?_
  have e12 : T12.heap = hh10 := eh012.trans eh12
  refine own_st (fun _ k => XS.iload X12.here hx rfl (hb hby at_287) rfl k) ?_
  show own_Gl _ _ _ _ _ _ _ (T12.setTop (mkF m 289 #[.val (.int p1), .val (.int p2), .val (.int p3), .val (.int p4), .val (.long p5), .second, .val (.int (Int32.ofNat c9)), .val (.int g), .val (.long (own_base p5)), .second, .val (.ref ai), .val (.ref li_10), .val (.int (Int32.ofNat v9)), .unset, .unset, .unset, .unset, .unset, .unset, .unset, .unset, .unset, .unset, .unset, .unset] [(.int (Int32.ofNat v9)), (.int (own_bit (Int32.ofNat v9) (0 : Int32)))]))
  refine own_st (fun _ k => XS.iconst X12.here hx rfl (hb hby at_289) k) ?_
  obtain ⟨_, _, ⟨T16, L16, k16, n16⟩, -, X16, ⟨Lc16, hQ16, l16, y16, z16⟩, st16⟩ := Jvm.LawKit.callS X12 hx (y := oM28) hown (mvT hZ (oW hw 66 rfl)) (mvT hZ (oW hw 67 rfl)) (mvT hZ (oW hw 19 rfl)) (mvT hZ (oW hw 68 rfl)) (by decide) (backOf (W := 1) (own_bitb l Z a0 hw [] (Int32.ofNat v9) (1 : Int32) hh10 n0 Zs11 ) hZ (oW hw 68 rfl) (oW hw 19 rfl) (by decide) (by decide)) (g := (mkF m 290 #[.val (.int p1), .val (.int p2), .val (.int p3), .val (.int p4), .val (.long p5), .second, .val (.int (Int32.ofNat c9)), .val (.int g), .val (.long (own_base p5)), .second, .val (.ref ai), .val (.ref li_10), .val (.int (Int32.ofNat v9)), .unset, .unset, .unset, .unset, .unset, .unset, .unset, .unset, .unset, .unset, .unset, .unset] [(.int 1), (.int (Int32.ofNat v9)), (.int (own_bit (Int32.ofNat v9) (0 : Int32)))])) rfl (by rw [hml]; rfl) (argsL := [(.int (Int32.ofNat v9)), (.int 1)]) (rest := [(.int (own_bit (Int32.ofNat v9) (0 : Int32)))]) (lenOf own_pd945365680 rfl) rfl (by show 2 * 0 + _ ≤ _; exact Nat.le_of_eq rfl) (hb hby at_290) (fun _ _ => ⟨rfl, e12, (by decide : 16 + 0 ≤ room_1.cells), (by decide : 121 + 0 ≤ room_1.slots)⟩)
  dsimp only [Pt.U, Pt.locs, Pt.cells, Pt.slots] at X16 l16 y16 z16 st16 hQ16
  subst l16 y16 z16
  obtain ⟨hh16, eh016⟩ : ∃ z, T16.heap = z := ⟨_, rfl⟩
  rw [eh016] at hQ16
  obtain ⟨rfl, Nq16, eh16⟩ := hQ16
  have N16 := Fr.app N12 Nq16
  refine own_st st16 ?_
  have e16 : T16.heap = hh10 := eh016.trans eh16
  refine own_st (fun _ k => XS.iadd X16.here hx rfl (hb hby at_293) rfl k) ?_
  refine own_st (fun _ k => XS.iload X16.here hx rfl (hb hby at_294) rfl k) ?_
  show own_Gl _ _ _ _ _ _ _ (T16.setTop (mkF m 296 #[.val (.int p1), .val (.int p2), .val (.int p3), .val (.int p4), .val (.long p5), .second, .val (.int (Int32.ofNat c9)), .val (.int g), .val (.long (own_base p5)), .second, .val (.ref ai), .val (.ref li_10), .val (.int (Int32.ofNat v9)), .unset, .unset, .unset, .unset, .unset, .unset, .unset, .unset, .unset, .unset, .unset, .unset] [(.int (Int32.ofNat v9)), (.int ((own_bit (Int32.ofNat v9) (0 : Int32)) + (own_bit (Int32.ofNat v9) (1 : Int32))))]))
  refine own_st (fun _ k => XS.iconst X16.here hx rfl (hb hby at_296) k) ?_
  obtain ⟨_, _, ⟨T17, L17, k17, n17⟩, -, X17, ⟨Lc17, hQ17, l17, y17, z17⟩, st17⟩ := Jvm.LawKit.callS X16 hx (y := oM28) hown (mvT hZ (oW hw 66 rfl)) (mvT hZ (oW hw 67 rfl)) (mvT hZ (oW hw 19 rfl)) (mvT hZ (oW hw 68 rfl)) (by decide) (backOf (W := 1) (own_bitb l Z a0 hw [] (Int32.ofNat v9) (2 : Int32) hh10 n0 Zs11 ) hZ (oW hw 68 rfl) (oW hw 19 rfl) (by decide) (by decide)) (g := (mkF m 297 #[.val (.int p1), .val (.int p2), .val (.int p3), .val (.int p4), .val (.long p5), .second, .val (.int (Int32.ofNat c9)), .val (.int g), .val (.long (own_base p5)), .second, .val (.ref ai), .val (.ref li_10), .val (.int (Int32.ofNat v9)), .unset, .unset, .unset, .unset, .unset, .unset, .unset, .unset, .unset, .unset, .unset, .unset] [(.int 2), (.int (Int32.ofNat v9)), (.int ((own_bit (Int32.ofNat v9) (0 : Int32)) + (own_bit (Int32.ofNat v9) (1 : Int32))))])) rfl (by rw [hml]; rfl) (argsL := [(.int (Int32.ofNat v9)), (.int 2)]) (rest := [(.int ((own_bit (Int32.ofNat v9) (0 : Int32)) + (own_bit (Int32.ofNat v9) (1 : Int32))))]) (lenOf own_pd945365680 rfl) rfl (by show 2 * 0 + _ ≤ _; exact Nat.le_of_eq rfl) (hb hby at_297) (fun _ _ => ⟨rfl, e16, (by decide : 16 + 0 ≤ room_1.cells), (by decide : 121 + 0 ≤ room_1.slots)⟩)
  dsimp only [Pt.U, Pt.locs, Pt.cells, Pt.slots] at X17 l17 y17 z17 st17 hQ17
  subst l17 y17 z17
  obtain ⟨hh17, eh017⟩ : ∃ z, T17.heap = z := ⟨_, rfl⟩
  rw [eh017] at hQ17
  obtain ⟨rfl, Nq17, eh17⟩ := hQ17
  have N17 := Fr.app N16 Nq17
  refine own_st st17 ?_
  have e17 : T17.heap = hh10 := eh017.trans eh17
  refine own_st (fun _ k => XS.iadd X17.here hx rfl (hb hby at_300) rfl k) ?_
  refine own_st (fun _ k => XS.iload X17.here hx rfl (hb hby at_301) rfl k) ?_
  show own_Gl _ _ _ _ _ _ _ (T17.setTop (mkF m 303 #[.val (.int p1), .val (.int p2), .val (.int p3), .val (.int p4), .val (.long p5), .second, .val (.int (Int32.ofNat c9)), .val (.int g), .val (.long (own_base p5)), .second, .val (.ref ai), .val (.ref li_10), .val (.int (Int32.ofNat v9)), .unset, .unset, .unset, .unset, .unset, .unset, .unset, .unset, .unset, .unset, .unset, .unset] [(.int (Int32.ofNat v9)), (.int (((own_bit (Int32.ofNat v9) (0 : Int32)) + (own_bit (Int32.ofNat v9) (1 : Int32))) + (own_bit (Int32.ofNat v9) (2 : Int32))))]))
  refine own_st (fun _ k => XS.iconst X17.here hx rfl (hb hby at_303) k) ?_
  obtain ⟨_, _, ⟨T18, L18, k18, n18⟩, -, X18, ⟨Lc18, hQ18, l18, y18, z18⟩, st18⟩ := Jvm.LawKit.callS X17 hx (y := oM28) hown (mvT hZ (oW hw 66 rfl)) (mvT hZ (oW hw 67 rfl)) (mvT hZ (oW hw 19 rfl)) (mvT hZ (oW hw 68 rfl)) (by decide) (backOf (W := 1) (own_bitb l Z a0 hw [] (Int32.ofNat v9) (3 : Int32) hh10 n0 Zs11 ) hZ (oW hw 68 rfl) (oW hw 19 rfl) (by decide) (by decide)) (g := (mkF m 304 #[.val (.int p1), .val (.int p2), .val (.int p3), .val (.int p4), .val (.long p5), .second, .val (.int (Int32.ofNat c9)), .val (.int g), .val (.long (own_base p5)), .second, .val (.ref ai), .val (.ref li_10), .val (.int (Int32.ofNat v9)), .unset, .unset, .unset, .unset, .unset, .unset, .unset, .unset, .unset, .unset, .unset, .unset] [(.int 3), (.int (Int32.ofNat v9)), (.int (((own_bit (Int32.ofNat v9) (0 : Int32)) + (own_bit (Int32.ofNat v9) (1 : Int32))) + (own_bit (Int32.ofNat v9) (2 : Int32))))])) rfl (by rw [hml]; rfl) (argsL := [(.int (Int32.ofNat v9)), (.int 3)]) (rest := [(.int (((own_bit (Int32.ofNat v9) (0 : Int32)) + (own_bit (Int32.ofNat v9) (1 : Int32))) + (own_bit (Int32.ofNat v9) (2 : Int32))))]) (lenOf own_pd945365680 rfl) rfl (by show 2 * 0 + _ ≤ _; exact Nat.le_of_eq rfl) (hb hby at_304) (fun _ _ => ⟨rfl, e17, (by decide : 16 + 0 ≤ room_1.cells), (by decide : 121 + 0 ≤ room_1.slots)⟩)
  dsimp only [Pt.U, Pt.locs, Pt.cells, Pt.slots] at X18 l18 y18 z18 st18 hQ18
  subst l18 y18 z18
  obtain ⟨hh18, eh018⟩ : ∃ z, T18.heap = z := ⟨_, rfl⟩
  rw [eh018] at hQ18
  obtain ⟨rfl, Nq18, eh18⟩ := hQ18
  have N18 := Fr.app N17 Nq18
  refine own_st st18 ?_
  have e18 : T18.heap = hh10 := eh018.trans eh18
  refine own_st (fun _ k => XS.iadd X18.here hx rfl (hb hby at_307) rfl k) ?_
  refine own_st (fun _ k => XS.iload X18.here hx rfl (hb hby at_308) rfl k) ?_
  show own_Gl _ _ _ _ _ _ _ (T18.setTop (mkF m 310 #[.val (.int p1), .val (.int p2), .val (.int p3), .val (.int p4), .val (.long p5), .second, .val (.int (Int32.ofNat c9)), .val (.int g), .val (.long (own_base p5)), .second, .val (.ref ai), .val (.ref li_10), .val (.int (Int32.ofNat v9)), .unset, .unset, .unset, .unset, .unset, .unset, .unset, .unset, .unset, .unset, .unset, .unset] [(.int (Int32.ofNat v9)), (.int ((((own_bit (Int32.ofNat v9) (0 : Int32)) + (own_bit (Int32.ofNat v9) (1 : Int32))) + (own_bit (Int32.ofNat v9) (2 : Int32))) + (own_bit (Int32.ofNat v9) (3 : Int32))))]))
  refine own_st (fun _ k => XS.iconst X18.here hx rfl (hb hby at_310) k) ?_
  obtain ⟨_, _, ⟨T19, L19, k19, n19⟩, -, X19, ⟨Lc19, hQ19, l19, y19, z19⟩, st19⟩ := Jvm.LawKit.callS X18 hx (y := oM28) hown (mvT hZ (oW hw 66 rfl)) (mvT hZ (oW hw 67 rfl)) (mvT hZ (oW hw 19 rfl)) (mvT hZ (oW hw 68 rfl)) (by decide) (backOf (W := 1) (own_bitb l Z a0 hw [] (Int32.ofNat v9) (4 : Int32) hh10 n0 Zs11 ) hZ (oW hw 68 rfl) (oW hw 19 rfl) (by decide) (by decide)) (g := (mkF m 311 #[.val (.int p1), .val (.int p2), .val (.int p3), .val (.int p4), .val (.long p5), .second, .val (.int (Int32.ofNat c9)), .val (.int g), .val (.long (own_base p5)), .second, .val (.ref ai), .val (.ref li_10), .val (.int (Int32.ofNat v9)), .unset, .unset, .unset, .unset, .unset, .unset, .unset, .unset, .unset, .unset, .unset, .unset] [(.int 4), (.int (Int32.ofNat v9)), (.int ((((own_bit (Int32.ofNat v9) (0 : Int32)) + (own_bit (Int32.ofNat v9) (1 : Int32))) + (own_bit (Int32.ofNat v9) (2 : Int32))) + (own_bit (Int32.ofNat v9) (3 : Int32))))])) rfl (by rw [hml]; rfl) (argsL := [(.int (Int32.ofNat v9)), (.int 4)]) (rest := [(.int ((((own_bit (Int32.ofNat v9) (0 : Int32)) + (own_bit (Int32.ofNat v9) (1 : Int32))) + (own_bit (Int32.ofNat v9) (2 : Int32))) + (own_bit (Int32.ofNat v9) (3 : Int32))))]) (lenOf own_pd945365680 rfl) rfl (by show 2 * 0 + _ ≤ _; exact Nat.le_of_eq rfl) (hb hby at_311) (fun _ _ => ⟨rfl, e18, (by decide : 16 + 0 ≤ room_1.cells), (by decide : 121 + 0 ≤ room_1.slots)⟩)
  dsimp only [Pt.U, Pt.locs, Pt.cells, Pt.slots] at X19 l19 y19 z19 st19 hQ19
  subst l19 y19 z19
  obtain ⟨hh19, eh019⟩ : ∃ z, T19.heap = z := ⟨_, rfl⟩
  rw [eh019] at hQ19
  obtain ⟨rfl, Nq19, eh19⟩ := hQ19
  have N19 := Fr.app N18 Nq19
  refine own_st st19 ?_
  have e19 : T19.heap = hh10 := eh019.trans eh19
  refine own_st (fun _ k => XS.iadd X19.here hx rfl (hb hby at_314) rfl k) ?_
  refine own_st (fun _ k => XS.iload X19.here hx rfl (hb hby at_315) rfl k) ?_
  show own_Gl _ _ _ _ _ _ _ (T19.setTop (mkF m 317 #[.val (.int p1), .val (.int p2), .val (.int p3), .val (.int p4), .val (.long p5), .second, .val (.int (Int32.ofNat c9)), .val (.int g), .val (.long (own_base p5)), .second, .val (.ref ai), .val (.ref li_10), .val (.int (Int32.ofNat v9)), .unset, .unset, .unset, .unset, .unset, .unset, .unset, .unset, .unset, .unset, .unset, .unset] [(.int (Int32.ofNat v9)), (.int (((((own_bit (Int32.ofNat v9) (0 : Int32)) + (own_bit (Int32.ofNat v9) (1 : Int32))) + (own_bit (Int32.ofNat v9) (2 : Int32))) + (own_bit (Int32.ofNat v9) (3 : Int32))) + (own_bit (Int32.ofNat v9) (4 : Int32))))]))
  refine own_st (fun _ k => XS.iconst X19.here hx rfl (hb hby at_317) k) ?_
  obtain ⟨_, _, ⟨T20, L20, k20, n20⟩, -, X20, ⟨Lc20, hQ20, l20, y20, z20⟩, st20⟩ := Jvm.LawKit.callS X19 hx (y := oM28) hown (mvT hZ (oW hw 66 rfl)) (mvT hZ (oW hw 67 rfl)) (mvT hZ (oW hw 19 rfl)) (mvT hZ (oW hw 68 rfl)) (by decide) (backOf (W := 1) (own_bitb l Z a0 hw [] (Int32.ofNat v9) (5 : Int32) hh10 n0 Zs11 ) hZ (oW hw 68 rfl) (oW hw 19 rfl) (by decide) (by decide)) (g := (mkF m 318 #[.val (.int p1), .val (.int p2), .val (.int p3), .val (.int p4), .val (.long p5), .second, .val (.int (Int32.ofNat c9)), .val (.int g), .val (.long (own_base p5)), .second, .val (.ref ai), .val (.ref li_10), .val (.int (Int32.ofNat v9)), .unset, .unset, .unset, .unset, .unset, .unset, .unset, .unset, .unset, .unset, .unset, .unset] [(.int 5), (.int (Int32.ofNat v9)), (.int (((((own_bit (Int32.ofNat v9) (0 : Int32)) + (own_bit (Int32.ofNat v9) (1 : Int32))) + (own_bit (Int32.ofNat v9) (2 : Int32))) + (own_bit (Int32.ofNat v9) (3 : Int32))) + (own_bit (Int32.ofNat v9) (4 : Int32))))])) rfl (by rw [hml]; rfl) (argsL := [(.int (Int32.ofNat v9)), (.int 5)]) (rest := [(.int (((((own_bit (Int32.ofNat v9) (0 : Int32)) + (own_bit (Int32.ofNat v9) (1 : Int32))) + (own_bit (Int32.ofNat v9) (2 : Int32))) + (own_bit (Int32.ofNat v9) (3 : Int32))) + (own_bit (Int32.ofNat v9) (4 : Int32))))]) (lenOf own_pd945365680 rfl) rfl (by show 2 * 0 + _ ≤ _; exact Nat.le_of_eq rfl) (hb hby at_318) (fun _ _ => ⟨rfl, e19, (by decide : 16 + 0 ≤ room_1.cells), (by decide : 121 + 0 ≤ room_1.slots)⟩)
  dsimp only [Pt.U, Pt.locs, Pt.cells, Pt.slots] at X20 l20 y20 z20 st20 hQ20
  subst l20 y20 z20
  obtain ⟨hh20, eh020⟩ : ∃ z, T20.heap = z := ⟨_, rfl⟩
  rw [eh020] at hQ20
  obtain ⟨rfl, Nq20, eh20⟩ := hQ20
  have N20 := Fr.app N19 Nq20
  refine own_st st20 ?_
  have e20 : T20.heap = hh10 := eh020.trans eh20
  refine own_st (fun _ k => XS.iadd X20.here hx rfl (hb hby at_321) rfl k) ?_
  refine own_st (fun _ k => XS.iload X20.here hx rfl (hb hby at_322) rfl k) ?_
  show own_Gl _ _ _ _ _ _ _ (T20.setTop (mkF m 324 #[.val (.int p1), .val (.int p2), .val (.int p3), .val (.int p4), .val (.long p5), .second, .val (.int (Int32.ofNat c9)), .val (.int g), .val (.long (own_base p5)), .second, .val (.ref ai), .val (.ref li_10), .val (.int (Int32.ofNat v9)), .unset, .unset, .unset, .unset, .unset, .unset, .unset, .unset, .unset, .unset, .unset, .unset] [(.int (Int32.ofNat v9)), (.int ((((((own_bit (Int32.ofNat v9) (0 : Int32)) + (own_bit (Int32.ofNat v9) (1 : Int32))) + (own_bit (Int32.ofNat v9) (2 : Int32))) + (own_bit (Int32.ofNat v9) (3 : Int32))) + (own_bit (Int32.ofNat v9) (4 : Int32))) + (own_bit (Int32.ofNat v9) (5 : Int32))))]))
  refine own_st (fun _ k => XS.bipush X20.here hx rfl (hb hby at_324) k) ?_
  obtain ⟨_, _, ⟨T21, L21, k21, n21⟩, -, X21, ⟨Lc21, hQ21, l21, y21, z21⟩, st21⟩ := Jvm.LawKit.callS X20 hx (y := oM28) hown (mvT hZ (oW hw 66 rfl)) (mvT hZ (oW hw 67 rfl)) (mvT hZ (oW hw 19 rfl)) (mvT hZ (oW hw 68 rfl)) (by decide) (backOf (W := 1) (own_bitb l Z a0 hw [] (Int32.ofNat v9) (6 : Int32) hh10 n0 Zs11 ) hZ (oW hw 68 rfl) (oW hw 19 rfl) (by decide) (by decide)) (g := (mkF m 326 #[.val (.int p1), .val (.int p2), .val (.int p3), .val (.int p4), .val (.long p5), .second, .val (.int (Int32.ofNat c9)), .val (.int g), .val (.long (own_base p5)), .second, .val (.ref ai), .val (.ref li_10), .val (.int (Int32.ofNat v9)), .unset, .unset, .unset, .unset, .unset, .unset, .unset, .unset, .unset, .unset, .unset, .unset] [(.int 6), (.int (Int32.ofNat v9)), (.int ((((((own_bit (Int32.ofNat v9) (0 : Int32)) + (own_bit (Int32.ofNat v9) (1 : Int32))) + (own_bit (Int32.ofNat v9) (2 : Int32))) + (own_bit (Int32.ofNat v9) (3 : Int32))) + (own_bit (Int32.ofNat v9) (4 : Int32))) + (own_bit (Int32.ofNat v9) (5 : Int32))))])) rfl (by rw [hml]; rfl) (argsL := [(.int (Int32.ofNat v9)), (.int 6)]) (rest := [(.int ((((((own_bit (Int32.ofNat v9) (0 : Int32)) + (own_bit (Int32.ofNat v9) (1 : Int32))) + (own_bit (Int32.ofNat v9) (2 : Int32))) + (own_bit (Int32.ofNat v9) (3 : Int32))) + (own_bit (Int32.ofNat v9) (4 : Int32))) + (own_bit (Int32.ofNat v9) (5 : Int32))))]) (lenOf own_pd945365680 rfl) rfl (by show 2 * 0 + _ ≤ _; exact Nat.le_of_eq rfl) (hb hby at_326) (fun _ _ => ⟨rfl, e20, (by decide : 16 + 0 ≤ room_1.cells), (by decide : 121 + 0 ≤ room_1.slots)⟩)
  dsimp only [Pt.U, Pt.locs, Pt.cells, Pt.slots] at X21 l21 y21 z21 st21 hQ21
  subst l21 y21 z21
  obtain ⟨hh21, eh021⟩ : ∃ z, T21.heap = z := ⟨_, rfl⟩
  rw [eh021] at hQ21
  obtain ⟨rfl, Nq21, eh21⟩ := hQ21
  have N21 := Fr.app N20 Nq21
  refine own_st st21 ?_
  have e21 : T21.heap = hh10 := eh021.trans eh21
  refine own_st (fun _ k => XS.iadd X21.here hx rfl (hb hby at_329) rfl k) ?_
  refine own_st (fun _ k => XS.iload X21.here hx rfl (hb hby at_330) rfl k) ?_
  show own_Gl _ _ _ _ _ _ _ (T21.setTop (mkF m 332 #[.val (.int p1), .val (.int p2), .val (.int p3), .val (.int p4), .val (.long p5), .second, .val (.int (Int32.ofNat c9)), .val (.int g), .val (.long (own_base p5)), .second, .val (.ref ai), .val (.ref li_10), .val (.int (Int32.ofNat v9)), .unset, .unset, .unset, .unset, .unset, .unset, .unset, .unset, .unset, .unset, .unset, .unset] [(.int (Int32.ofNat v9)), (.int (((((((own_bit (Int32.ofNat v9) (0 : Int32)) + (own_bit (Int32.ofNat v9) (1 : Int32))) + (own_bit (Int32.ofNat v9) (2 : Int32))) + (own_bit (Int32.ofNat v9) (3 : Int32))) + (own_bit (Int32.ofNat v9) (4 : Int32))) + (own_bit (Int32.ofNat v9) (5 : Int32))) + (own_bit (Int32.ofNat v9) (6 : Int32))))]))
  refine own_st (fun _ k => XS.bipush X21.here hx rfl (hb hby at_332) k) ?_
  obtain ⟨_, _, ⟨T22, L22, k22, n22⟩, -, X22, ⟨Lc22, hQ22, l22, y22, z22⟩, st22⟩ := Jvm.LawKit.callS X21 hx (y := oM28) hown (mvT hZ (oW hw 66 rfl)) (mvT hZ (oW hw 67 rfl)) (mvT hZ (oW hw 19 rfl)) (mvT hZ (oW hw 68 rfl)) (by decide) (backOf (W := 1) (own_bitb l Z a0 hw [] (Int32.ofNat v9) (7 : Int32) hh10 n0 Zs11 ) hZ (oW hw 68 rfl) (oW hw 19 rfl) (by decide) (by decide)) (g := (mkF m 334 #[.val (.int p1), .val (.int p2), .val (.int p3), .val (.int p4), .val (.long p5), .second, .val (.int (Int32.ofNat c9)), .val (.int g), .val (.long (own_base p5)), .second, .val (.ref ai), .val (.ref li_10), .val (.int (Int32.ofNat v9)), .unset, .unset, .unset, .unset, .unset, .unset, .unset, .unset, .unset, .unset, .unset, .unset] [(.int 7), (.int (Int32.ofNat v9)), (.int (((((((own_bit (Int32.ofNat v9) (0 : Int32)) + (own_bit (Int32.ofNat v9) (1 : Int32))) + (own_bit (Int32.ofNat v9) (2 : Int32))) + (own_bit (Int32.ofNat v9) (3 : Int32))) + (own_bit (Int32.ofNat v9) (4 : Int32))) + (own_bit (Int32.ofNat v9) (5 : Int32))) + (own_bit (Int32.ofNat v9) (6 : Int32))))])) rfl (by rw [hml]; rfl) (argsL := [(.int (Int32.ofNat v9)), (.int 7)]) (rest := [(.int (((((((own_bit (Int32.ofNat v9) (0 : Int32)) + (own_bit (Int32.ofNat v9) (1 : Int32))) + (own_bit (Int32.ofNat v9) (2 : Int32))) + (own_bit (Int32.ofNat v9) (3 : Int32))) + (own_bit (Int32.ofNat v9) (4 : Int32))) + (own_bit (Int32.ofNat v9) (5 : Int32))) + (own_bit (Int32.ofNat v9) (6 : Int32))))]) (lenOf own_pd945365680 rfl) rfl (by show 2 * 0 + _ ≤ _; exact Nat.le_of_eq rfl) (hb hby at_334) (fun _ _ => ⟨rfl, e21, (by decide : 16 + 0 ≤ room_1.cells), (by decide : 121 + 0 ≤ room_1.slots)⟩)
  dsimp only [Pt.U, Pt.locs, Pt.cells, Pt.slots] at X22 l22 y22 z22 st22 hQ22
  subst l22 y22 z22
  obtain ⟨hh22, eh022⟩ : ∃ z, T22.heap = z := ⟨_, rfl⟩
  rw [eh022] at hQ22
  obtain ⟨rfl, Nq22, eh22⟩ := hQ22
  have N22 := Fr.app N21 Nq22
  refine own_st st22 ?_
  have e22 : T22.heap = hh10 := eh022.trans eh22
  refine own_st (fun _ k => XS.iadd X22.here hx rfl (hb hby at_337) rfl k) ?_
  refine own_st (fun _ k => XS.iload X22.here hx rfl (hb hby at_338) rfl k) ?_
  show own_Gl _ _ _ _ _ _ _ (T22.setTop (mkF m 340 #[.val (.int p1), .val (.int p2), .val (.int p3), .val (.int p4), .val (.long p5), .second, .val (.int (Int32.ofNat c9)), .val (.int g), .val (.long (own_base p5)), .second, .val (.ref ai), .val (.ref li_10), .val (.int (Int32.ofNat v9)), .unset, .unset, .unset, .unset, .unset, .unset, .unset, .unset, .unset, .unset, .unset, .unset] [(.int (Int32.ofNat v9)), (.int ((((((((own_bit (Int32.ofNat v9) (0 : Int32)) + (own_bit (Int32.ofNat v9) (1 : Int32))) + (own_bit (Int32.ofNat v9) (2 : Int32))) + (own_bit (Int32.ofNat v9) (3 : Int32))) + (own_bit (Int32.ofNat v9) (4 : Int32))) + (own_bit (Int32.ofNat v9) (5 : Int32))) + (own_bit (Int32.ofNat v9) (6 : Int32))) + (own_bit (Int32.ofNat v9) (7 : Int32))))]))
  refine own_st (fun _ k => XS.bipush X22.here hx rfl (hb hby at_340) k) ?_
  obtain ⟨_, _, ⟨T23, L23, k23, n23⟩, -, X23, ⟨Lc23, hQ23, l23, y23, z23⟩, st23⟩ := Jvm.LawKit.callS X22 hx (y := oM28) hown (mvT hZ (oW hw 66 rfl)) (mvT hZ (oW hw 67 rfl)) (mvT hZ (oW hw 19 rfl)) (mvT hZ (oW hw 68 rfl)) (by decide) (backOf (W := 1) (own_bitb l Z a0 hw [] (Int32.ofNat v9) (8 : Int32) hh10 n0 Zs11 ) hZ (oW hw 68 rfl) (oW hw 19 rfl) (by decide) (by decide)) (g := (mkF m 342 #[.val (.int p1), .val (.int p2), .val (.int p3), .val (.int p4), .val (.long p5), .second, .val (.int (Int32.ofNat c9)), .val (.int g), .val (.long (own_base p5)), .second, .val (.ref ai), .val (.ref li_10), .val (.int (Int32.ofNat v9)), .unset, .unset, .unset, .unset, .unset, .unset, .unset, .unset, .unset, .unset, .unset, .unset] [(.int 8), (.int (Int32.ofNat v9)), (.int ((((((((own_bit (Int32.ofNat v9) (0 : Int32)) + (own_bit (Int32.ofNat v9) (1 : Int32))) + (own_bit (Int32.ofNat v9) (2 : Int32))) + (own_bit (Int32.ofNat v9) (3 : Int32))) + (own_bit (Int32.ofNat v9) (4 : Int32))) + (own_bit (Int32.ofNat v9) (5 : Int32))) + (own_bit (Int32.ofNat v9) (6 : Int32))) + (own_bit (Int32.ofNat v9) (7 : Int32))))])) rfl (by rw [hml]; rfl) (argsL := [(.int (Int32.ofNat v9)), (.int 8)]) (rest := [(.int ((((((((own_bit (Int32.ofNat v9) (0 : Int32)) + (own_bit (Int32.ofNat v9) (1 : Int32))) + (own_bit (Int32.ofNat v9) (2 : Int32))) + (own_bit (Int32.ofNat v9) (3 : Int32))) + (own_bit (Int32.ofNat v9) (4 : Int32))) + (own_bit (Int32.ofNat v9) (5 : Int32))) + (own_bit (Int32.ofNat v9) (6 : Int32))) + (own_bit (Int32.ofNat v9) (7 : Int32))))]) (lenOf own_pd945365680 rfl) rfl (by show 2 * 0 + _ ≤ _; exact Nat.le_of_eq rfl) (hb hby at_342) (fun _ _ => ⟨rfl, e22, (by decide : 16 + 0 ≤ room_1.cells), (by decide : 121 + 0 ≤ room_1.slots)⟩)
  dsimp only [Pt.U, Pt.locs, Pt.cells, Pt.slots] at X23 l23 y23 z23 st23 hQ23
  subst l23 y23 z23
  obtain ⟨hh23, eh023⟩ : ∃ z, T23.heap = z := ⟨_, rfl⟩
  rw [eh023] at hQ23
  obtain ⟨rfl, Nq23, eh23⟩ := hQ23
  have N23 := Fr.app N22 Nq23
  refine own_st st23 ?_
  have e23 : T23.heap = hh10 := eh023.trans eh23
  refine own_st (fun _ k => XS.iadd X23.here hx rfl (hb hby at_345) rfl k) ?_
  refine own_st (fun _ k => XS.istore X23.here hx rfl (hb hby at_346) rfl (l' := #[.val (.int p1), .val (.int p2), .val (.int p3), .val (.int p4), .val (.long p5), .second, .val (.int (Int32.ofNat c9)), .val (.int g), .val (.long (own_base p5)), .second, .val (.ref ai), .val (.ref li_10), .val (.int (Int32.ofNat v9)), .val (.int (((((((((own_bit (Int32.ofNat v9) (0 : Int32)) + (own_bit (Int32.ofNat v9) (1 : Int32))) + (own_bit (Int32.ofNat v9) (2 : Int32))) + (own_bit (Int32.ofNat v9) (3 : Int32))) + (own_bit (Int32.ofNat v9) (4 : Int32))) + (own_bit (Int32.ofNat v9) (5 : Int32))) + (own_bit (Int32.ofNat v9) (6 : Int32))) + (own_bit (Int32.ofNat v9) (7 : Int32))) + (own_bit (Int32.ofNat v9) (8 : Int32)))), .unset, .unset, .unset, .unset, .unset, .unset, .unset, .unset, .unset, .unset, .unset]) rfl k) ?_
  show own_Gl _ _ _ _ _ _ _ (T23.setTop (mkF m 348 #[.val (.int p1), .val (.int p2), .val (.int p3), .val (.int p4), .val (.long p5), .second, .val (.int (Int32.ofNat c9)), .val (.int g), .val (.long (own_base p5)), .second, .val (.ref ai), .val (.ref li_10), .val (.int (Int32.ofNat v9)), .val (.int (((((((((own_bit (Int32.ofNat v9) (0 : Int32)) + (own_bit (Int32.ofNat v9) (1 : Int32))) + (own_bit (Int32.ofNat v9) (2 : Int32))) + (own_bit (Int32.ofNat v9) (3 : Int32))) + (own_bit (Int32.ofNat v9) (4 : Int32))) + (own_bit (Int32.ofNat v9) (5 : Int32))) + (own_bit (Int32.ofNat v9) (6 : Int32))) + (own_bit (Int32.ofNat v9) (7 : Int32))) + (own_bit (Int32.ofNat v9) (8 : Int32)))), .unset, .unset, .unset, .unset, .unset, .unset, .unset, .unset, .unset, .unset, .unset] []))
  refine own_st (fun _ k => XS.aload X23.here hx rfl (hb hby at_348) rfl rfl k) ?_
  obtain ⟨cq24, kq24, q24a, q24b, q24c⟩ := isOf hZ e23 P10_0
  obtain ⟨_, _, ⟨T24, L24, k24, n24⟩, -, X24, ⟨Lc24, hQ24, l24, y24, z24⟩, st24⟩ := X23.interfaceBack hx (xi := oM26) (y := oM19) hown (mvT hZ (oW hw 69 rfl)) (mvT hZ (oW hw 70 rfl)) (mvT hZ (oW hw 71 rfl)) (mvT hZ (oW hw 72 rfl)) (mvT hZ (oW hw 73 rfl)) (mvT hZ (oW hw 74 rfl)) (mvT hZ (oW hw 75 rfl)) (mvT hZ (oW hw 76 rfl)) (by decide) (backOf (W := 0) (own_size l Z a0 hw [] li_10 N_10 hh10 n0 Zs11 P10_1) hZ (oW hw 77 rfl) (oW hw 44 rfl) (by decide) (by decide)) q24a q24b q24c (g := (mkF m 350 #[.val (.int p1), .val (.int p2), .val (.int p3), .val (.int p4), .val (.long p5), .second, .val (.int (Int32.ofNat c9)), .val (.int g), .val (.long (own_base p5)), .second, .val (.ref ai), .val (.ref li_10), .val (.int (Int32.ofNat v9)), .val (.int (((((((((own_bit (Int32.ofNat v9) (0 : Int32)) + (own_bit (Int32.ofNat v9) (1 : Int32))) + (own_bit (Int32.ofNat v9) (2 : Int32))) + (own_bit (Int32.ofNat v9) (3 : Int32))) + (own_bit (Int32.ofNat v9) (4 : Int32))) + (own_bit (Int32.ofNat v9) (5 : Int32))) + (own_bit (Int32.ofNat v9) (6 : Int32))) + (own_bit (Int32.ofNat v9) (7 : Int32))) + (own_bit (Int32.ofNat v9) (8 : Int32)))), .unset, .unset, .unset, .unset, .unset, .unset, .unset, .unset, .unset, .unset, .unset] [(.ref li_10)])) rfl (by rw [hml]; rfl) (Steps.refl _) (argsL := []) (rest := []) (lenOf own_pd691884 rfl) rfl (by show 2 * 0 + _ ≤ _; exact Nat.le_of_eq rfl) (hb hby at_350) (fun _ _ => ⟨rfl, e23, (by decide : 16 + 0 ≤ room_1.cells), (by decide : 121 + 0 ≤ room_1.slots)⟩)
  dsimp only [Pt.U, Pt.locs, Pt.cells, Pt.slots] at X24 l24 y24 z24 st24 hQ24
  subst l24 y24 z24
  obtain ⟨hh24, eh024⟩ : ∃ z, T24.heap = z := ⟨_, rfl⟩
  rw [eh024] at hQ24
  obtain ⟨rfl, Nq24, eh24⟩ := hQ24
  have N24 := Fr.app N23 Nq24
  refine own_tr st24 ?_
  have e24 : T24.heap = hh10 := eh024.trans eh24
  refine own_st (fun _ k => XS.iload X24.here hx rfl (hb hby at_355) rfl k) ?_
  have hd25 : N_10 = (((((((((own_bit (Int32.ofNat v9) (0 : Int32)) + (own_bit (Int32.ofNat v9) (1 : Int32))) + (own_bit (Int32.ofNat v9) (2 : Int32))) + (own_bit (Int32.ofNat v9) (3 : Int32))) + (own_bit (Int32.ofNat v9) (4 : Int32))) + (own_bit (Int32.ofNat v9) (5 : Int32))) + (own_bit (Int32.ofNat v9) (6 : Int32))) + (own_bit (Int32.ofNat v9) (7 : Int32))) + (own_bit (Int32.ofNat v9) (8 : Int32))) := P10_2.trans hf1
  refine own_st (fun _ k => XS.icmpYes X24.here hx rfl (pc0 := 357) (pc' := 362) rfl (hb hby at_357) rfl (teq hd25).1 (by decide) (by decide) k) ?_
  show own_Gl _ _ _ _ _ _ _ (T24.setTop (mkF m 362 #[.val (.int p1), .val (.int p2), .val (.int p3), .val (.int p4), .val (.long p5), .second, .val (.int (Int32.ofNat c9)), .val (.int g), .val (.long (own_base p5)), .second, .val (.ref ai), .val (.ref li_10), .val (.int (Int32.ofNat v9)), .val (.int (((((((((own_bit (Int32.ofNat v9) (0 : Int32)) + (own_bit (Int32.ofNat v9) (1 : Int32))) + (own_bit (Int32.ofNat v9) (2 : Int32))) + (own_bit (Int32.ofNat v9) (3 : Int32))) + (own_bit (Int32.ofNat v9) (4 : Int32))) + (own_bit (Int32.ofNat v9) (5 : Int32))) + (own_bit (Int32.ofNat v9) (6 : Int32))) + (own_bit (Int32.ofNat v9) (7 : Int32))) + (own_bit (Int32.ofNat v9) (8 : Int32)))), .unset, .unset, .unset, .unset, .unset, .unset, .unset, .unset, .unset, .unset, .unset] []))
  refine own_st (fun _ k => XS.aload X24.here hx rfl (hb hby at_362) rfl rfl k) ?_
  refine own_st (fun _ k => XS.iconst X24.here hx rfl (hb hby at_364) k) ?_
  refine own_st (fun _ k => XS.lload X24.here hx rfl (hb hby at_365) rfl k) ?_
  obtain ⟨_, _, ⟨T26, L26, k26, n26⟩, -, X26, ⟨Lc26, hQ26, l26, y26, z26⟩, st26⟩ := Jvm.LawKit.callS X24 hx (y := oM25) hown (mvT hZ (oW hw 80 rfl)) (mvT hZ (oW hw 81 rfl)) (mvT hZ (oW hw 19 rfl)) (mvT hZ (oW hw 82 rfl)) (by decide) (backOf (W := 0) (own_bitOf l Z a0 hw [] li_10 (0 : Int32) (own_base p5) N_10 0 ds_10 hh10 n0 Zs11 P10_0 P10_1 P10_2 P10_5 P10_6 (fun d hd => ((hmm d).mp hd).1) rfl (by decide)) hZ (oW hw 82 rfl) (oW hw 19 rfl) (by decide) (by decide)) (g := (mkF m 367 #[.val (.int p1), .val (.int p2), .val (.int p3), .val (.int p4), .val (.long p5), .second, .val (.int (Int32.ofNat c9)), .val (.int g), .val (.long (own_base p5)), .second, .val (.ref ai), .val (.ref li_10), .val (.int (Int32.ofNat v9)), .val (.int (((((((((own_bit (Int32.ofNat v9) (0 : Int32)) + (own_bit (Int32.ofNat v9) (1 : Int32))) + (own_bit (Int32.ofNat v9) (2 : Int32))) + (own_bit (Int32.ofNat v9) (3 : Int32))) + (own_bit (Int32.ofNat v9) (4 : Int32))) + (own_bit (Int32.ofNat v9) (5 : Int32))) + (own_bit (Int32.ofNat v9) (6 : Int32))) + (own_bit (Int32.ofNat v9) (7 : Int32))) + (own_bit (Int32.ofNat v9) (8 : Int32)))), .unset, .unset, .unset, .unset, .unset, .unset, .unset, .unset, .unset, .unset, .unset] [(.long (own_base p5)), (.int 0), (.ref li_10)])) rfl (by rw [hml]; rfl) (argsL := [(.ref li_10), (.int 0), (.long (own_base p5))]) (rest := []) (lenOf own_pd167020003 rfl) rfl (by show 2 * 0 + _ ≤ _; exact Nat.le_of_eq rfl) (hb hby at_367) (fun _ _ => ⟨rfl, e24, (by decide : 16 + 0 ≤ room_1.cells), (by decide : 121 + 0 ≤ room_1.slots)⟩)
  dsimp only [Pt.U, Pt.locs, Pt.cells, Pt.slots] at X26 l26 y26 z26 st26 hQ26
  subst l26 y26 z26
  obtain ⟨hh26, eh026⟩ : ∃ z, T26.heap = z := ⟨_, rfl⟩
  rw [eh026] at hQ26
  obtain ⟨rfl, Nq26, eh26⟩ := hQ26
  have N26 := Fr.app N24 Nq26
  refine own_st st26 ?_
  have e26 : T26.heap = hh10 := eh026.trans eh26
  show own_Gl _ _ _ _ _ _ _ (T26.setTop (mkF m 370 #[.val (.int p1), .val (.int p2), .val (.int p3), .val (.int p4), .val (.long p5), .second, .val (.int (Int32.ofNat c9)), .val (.int g), .val (.long (own_base p5)), .second, .val (.ref ai), .val (.ref li_10), .val (.int (Int32.ofNat v9)), .val (.int (((((((((own_bit (Int32.ofNat v9) (0 : Int32)) + (own_bit (Int32.ofNat v9) (1 : Int32))) + (own_bit (Int32.ofNat v9) (2 : Int32))) + (own_bit (Int32.ofNat v9) (3 : Int32))) + (own_bit (Int32.ofNat v9) (4 : Int32))) + (own_bit (Int32.ofNat v9) (5 : Int32))) + (own_bit (Int32.ofNat v9) (6 : Int32))) + (own_bit (Int32.ofNat v9) (7 : Int32))) + (own_bit (Int32.ofNat v9) (8 : Int32)))), .unset, .unset, .unset, .unset, .unset, .unset, .unset, .unset, .unset, .unset, .unset] [(.int (own_B ds_10 0))]))
  refine own_st (fun _ k => XS.istore X26.here hx rfl (hb hby at_370) rfl (l' := #[.val (.int p1), .val (.int p2), .val (.int p3), .val (.int p4), .val (.long p5), .second, .val (.int (Int32.ofNat c9)), .val (.int g), .val (.long (own_base p5)), .second, .val (.ref ai), .val (.ref li_10), .val (.int (Int32.ofNat v9)), .val (.int (((((((((own_bit (Int32.ofNat v9) (0 : Int32)) + (own_bit (Int32.ofNat v9) (1 : Int32))) + (own_bit (Int32.ofNat v9) (2 : Int32))) + (own_bit (Int32.ofNat v9) (3 : Int32))) + (own_bit (Int32.ofNat v9) (4 : Int32))) + (own_bit (Int32.ofNat v9) (5 : Int32))) + (own_bit (Int32.ofNat v9) (6 : Int32))) + (own_bit (Int32.ofNat v9) (7 : Int32))) + (own_bit (Int32.ofNat v9) (8 : Int32)))), .val (.int (own_B ds_10 0)), .unset, .unset, .unset, .unset, .unset, .unset, .unset, .unset, .unset, .unset]) rfl k) ?_
  refine own_st (fun _ k => XS.aload X26.here hx rfl (hb hby at_372) rfl rfl k) ?_
  refine own_st (fun _ k => XS.iconst X26.here hx rfl (hb hby at_374) k) ?_
  refine own_st (fun _ k => XS.lload X26.here hx rfl (hb hby at_375) rfl k) ?_
  show own_Gl _ _ _ _ _ _ _ (T26.setTop (mkF m 377 #[.val (.int p1), .val (.int p2), .val (.int p3), .val (.int p4), .val (.long p5), .second, .val (.int (Int32.ofNat c9)), .val (.int g), .val (.long (own_base p5)), .second, .val (.ref ai), .val (.ref li_10), .val (.int (Int32.ofNat v9)), .val (.int (((((((((own_bit (Int32.ofNat v9) (0 : Int32)) + (own_bit (Int32.ofNat v9) (1 : Int32))) + (own_bit (Int32.ofNat v9) (2 : Int32))) + (own_bit (Int32.ofNat v9) (3 : Int32))) + (own_bit (Int32.ofNat v9) (4 : Int32))) + (own_bit (Int32.ofNat v9) (5 : Int32))) + (own_bit (Int32.ofNat v9) (6 : Int32))) + (own_bit (Int32.ofNat v9) (7 : Int32))) + (own_bit (Int32.ofNat v9) (8 : Int32)))), .val (.int (own_B ds_10 0)), .unset, .unset, .unset, .unset, .unset, .unset, .unset, .unset, .unset, .unset] [(.long (own_base p5)), (.int 1), (.ref li_10)]))
  obtain ⟨_, _, ⟨T27, L27, k27, n27⟩, -, X27, ⟨Lc27, hQ27, l27, y27, z27⟩, st27⟩ := Jvm.LawKit.callS X26 hx (y := oM25) hown (mvT hZ (oW hw 80 rfl)) (mvT hZ (oW hw 81 rfl)) (mvT hZ (oW hw 19 rfl)) (mvT hZ (oW hw 82 rfl)) (by decide) (backOf (W := 0) (own_bitOf l Z a0 hw [] li_10 (1 : Int32) (own_base p5) N_10 1 ds_10 hh10 n0 Zs11 P10_0 P10_1 P10_2 P10_5 P10_6 (fun d hd => ((hmm d).mp hd).1) rfl (by decide)) hZ (oW hw 82 rfl) (oW hw 19 rfl) (by decide) (by decide)) (g := (mkF m 377 #[.val (.int p1), .val (.int p2), .val (.int p3), .val (.int p4), .val (.long p5), .second, .val (.int (Int32.ofNat c9)), .val (.int g), .val (.long (own_base p5)), .second, .val (.ref ai), .val (.ref li_10), .val (.int (Int32.ofNat v9)), .val (.int (((((((((own_bit (Int32.ofNat v9) (0 : Int32)) + (own_bit (Int32.ofNat v9) (1 : Int32))) + (own_bit (Int32.ofNat v9) (2 : Int32))) + (own_bit (Int32.ofNat v9) (3 : Int32))) + (own_bit (Int32.ofNat v9) (4 : Int32))) + (own_bit (Int32.ofNat v9) (5 : Int32))) + (own_bit (Int32.ofNat v9) (6 : Int32))) + (own_bit (Int32.ofNat v9) (7 : Int32))) + (own_bit (Int32.ofNat v9) (8 : Int32)))), .val (.int (own_B ds_10 0)), .unset, .unset, .unset, .unset, .unset, .unset, .unset, .unset, .unset, .unset] [(.long (own_base p5)), (.int 1), (.ref li_10)])) rfl (by rw [hml]; rfl) (argsL := [(.ref li_10), (.int 1), (.long (own_base p5))]) (rest := []) (lenOf own_pd167020003 rfl) rfl (by show 2 * 0 + _ ≤ _; exact Nat.le_of_eq rfl) (hb hby at_377) (fun _ _ => ⟨rfl, e26, (by decide : 16 + 0 ≤ room_1.cells), (by decide : 121 + 0 ≤ room_1.slots)⟩)
  dsimp only [Pt.U, Pt.locs, Pt.cells, Pt.slots] at X27 l27 y27 z27 st27 hQ27
  subst l27 y27 z27
  obtain ⟨hh27, eh027⟩ : ∃ z, T27.heap = z := ⟨_, rfl⟩
  rw [eh027] at hQ27
  obtain ⟨rfl, Nq27, eh27⟩ := hQ27
  have N27 := Fr.app N26 Nq27
  refine own_st st27 ?_
  have e27 : T27.heap = hh10 := eh027.trans eh27
  refine own_st (fun _ k => XS.istore X27.here hx rfl (hb hby at_380) rfl (l' := #[.val (.int p1), .val (.int p2), .val (.int p3), .val (.int p4), .val (.long p5), .second, .val (.int (Int32.ofNat c9)), .val (.int g), .val (.long (own_base p5)), .second, .val (.ref ai), .val (.ref li_10), .val (.int (Int32.ofNat v9)), .val (.int (((((((((own_bit (Int32.ofNat v9) (0 : Int32)) + (own_bit (Int32.ofNat v9) (1 : Int32))) + (own_bit (Int32.ofNat v9) (2 : Int32))) + (own_bit (Int32.ofNat v9) (3 : Int32))) + (own_bit (Int32.ofNat v9) (4 : Int32))) + (own_bit (Int32.ofNat v9) (5 : Int32))) + (own_bit (Int32.ofNat v9) (6 : Int32))) + (own_bit (Int32.ofNat v9) (7 : Int32))) + (own_bit (Int32.ofNat v9) (8 : Int32)))), .val (.int (own_B ds_10 0)), .val (.int (own_B ds_10 1)), .unset, .unset, .unset, .unset, .unset, .unset, .unset, .unset, .unset]) rfl k) ?_
  refine own_st (fun _ k => XS.aload X27.here hx rfl (hb hby at_382) rfl rfl k) ?_
  refine own_st (fun _ k => XS.iconst X27.here hx rfl (hb hby at_384) k) ?_
  show own_Gl _ _ _ _ _ _ _ (T27.setTop (mkF m 385 #[.val (.int p1), .val (.int p2), .val (.int p3), .val (.int p4), .val (.long p5), .second, .val (.int (Int32.ofNat c9)), .val (.int g), .val (.long (own_base p5)), .second, .val (.ref ai), .val (.ref li_10), .val (.int (Int32.ofNat v9)), .val (.int (((((((((own_bit (Int32.ofNat v9) (0 : Int32)) + (own_bit (Int32.ofNat v9) (1 : Int32))) + (own_bit (Int32.ofNat v9) (2 : Int32))) + (own_bit (Int32.ofNat v9) (3 : Int32))) + (own_bit (Int32.ofNat v9) (4 : Int32))) + (own_bit (Int32.ofNat v9) (5 : Int32))) + (own_bit (Int32.ofNat v9) (6 : Int32))) + (own_bit (Int32.ofNat v9) (7 : Int32))) + (own_bit (Int32.ofNat v9) (8 : Int32)))), .val (.int (own_B ds_10 0)), .val (.int (own_B ds_10 1)), .unset, .unset, .unset, .unset, .unset, .unset, .unset, .unset, .unset] [(.int 2), (.ref li_10)]))
  refine own_st (fun _ k => XS.lload X27.here hx rfl (hb hby at_385) rfl k) ?_
  obtain ⟨_, _, ⟨T28, L28, k28, n28⟩, -, X28, ⟨Lc28, hQ28, l28, y28, z28⟩, st28⟩ := Jvm.LawKit.callS X27 hx (y := oM25) hown (mvT hZ (oW hw 80 rfl)) (mvT hZ (oW hw 81 rfl)) (mvT hZ (oW hw 19 rfl)) (mvT hZ (oW hw 82 rfl)) (by decide) (backOf (W := 0) (own_bitOf l Z a0 hw [] li_10 (2 : Int32) (own_base p5) N_10 2 ds_10 hh10 n0 Zs11 P10_0 P10_1 P10_2 P10_5 P10_6 (fun d hd => ((hmm d).mp hd).1) rfl (by decide)) hZ (oW hw 82 rfl) (oW hw 19 rfl) (by decide) (by decide)) (g := (mkF m 387 #[.val (.int p1), .val (.int p2), .val (.int p3), .val (.int p4), .val (.long p5), .second, .val (.int (Int32.ofNat c9)), .val (.int g), .val (.long (own_base p5)), .second, .val (.ref ai), .val (.ref li_10), .val (.int (Int32.ofNat v9)), .val (.int (((((((((own_bit (Int32.ofNat v9) (0 : Int32)) + (own_bit (Int32.ofNat v9) (1 : Int32))) + (own_bit (Int32.ofNat v9) (2 : Int32))) + (own_bit (Int32.ofNat v9) (3 : Int32))) + (own_bit (Int32.ofNat v9) (4 : Int32))) + (own_bit (Int32.ofNat v9) (5 : Int32))) + (own_bit (Int32.ofNat v9) (6 : Int32))) + (own_bit (Int32.ofNat v9) (7 : Int32))) + (own_bit (Int32.ofNat v9) (8 : Int32)))), .val (.int (own_B ds_10 0)), .val (.int (own_B ds_10 1)), .unset, .unset, .unset, .unset, .unset, .unset, .unset, .unset, .unset] [(.long (own_base p5)), (.int 2), (.ref li_10)])) rfl (by rw [hml]; rfl) (argsL := [(.ref li_10), (.int 2), (.long (own_base p5))]) (rest := []) (lenOf own_pd167020003 rfl) rfl (by show 2 * 0 + _ ≤ _; exact Nat.le_of_eq rfl) (hb hby at_387) (fun _ _ => ⟨rfl, e27, (by decide : 16 + 0 ≤ room_1.cells), (by decide : 121 + 0 ≤ room_1.slots)⟩)
  dsimp only [Pt.U, Pt.locs, Pt.cells, Pt.slots] at X28 l28 y28 z28 st28 hQ28
  subst l28 y28 z28
  obtain ⟨hh28, eh028⟩ : ∃ z, T28.heap = z := ⟨_, rfl⟩
  rw [eh028] at hQ28
  obtain ⟨rfl, Nq28, eh28⟩ := hQ28
  have N28 := Fr.app N27 Nq28
  refine own_st st28 ?_
  have e28 : T28.heap = hh10 := eh028.trans eh28
  refine own_st (fun _ k => XS.istore X28.here hx rfl (hb hby at_390) rfl (l' := #[.val (.int p1), .val (.int p2), .val (.int p3), .val (.int p4), .val (.long p5), .second, .val (.int (Int32.ofNat c9)), .val (.int g), .val (.long (own_base p5)), .second, .val (.ref ai), .val (.ref li_10), .val (.int (Int32.ofNat v9)), .val (.int (((((((((own_bit (Int32.ofNat v9) (0 : Int32)) + (own_bit (Int32.ofNat v9) (1 : Int32))) + (own_bit (Int32.ofNat v9) (2 : Int32))) + (own_bit (Int32.ofNat v9) (3 : Int32))) + (own_bit (Int32.ofNat v9) (4 : Int32))) + (own_bit (Int32.ofNat v9) (5 : Int32))) + (own_bit (Int32.ofNat v9) (6 : Int32))) + (own_bit (Int32.ofNat v9) (7 : Int32))) + (own_bit (Int32.ofNat v9) (8 : Int32)))), .val (.int (own_B ds_10 0)), .val (.int (own_B ds_10 1)), .val (.int (own_B ds_10 2)), .unset, .unset, .unset, .unset, .unset, .unset, .unset, .unset]) rfl k) ?_
  refine own_st (fun _ k => XS.aload X28.here hx rfl (hb hby at_392) rfl rfl k) ?_
  show own_Gl _ _ _ _ _ _ _ (T28.setTop (mkF m 394 #[.val (.int p1), .val (.int p2), .val (.int p3), .val (.int p4), .val (.long p5), .second, .val (.int (Int32.ofNat c9)), .val (.int g), .val (.long (own_base p5)), .second, .val (.ref ai), .val (.ref li_10), .val (.int (Int32.ofNat v9)), .val (.int (((((((((own_bit (Int32.ofNat v9) (0 : Int32)) + (own_bit (Int32.ofNat v9) (1 : Int32))) + (own_bit (Int32.ofNat v9) (2 : Int32))) + (own_bit (Int32.ofNat v9) (3 : Int32))) + (own_bit (Int32.ofNat v9) (4 : Int32))) + (own_bit (Int32.ofNat v9) (5 : Int32))) + (own_bit (Int32.ofNat v9) (6 : Int32))) + (own_bit (Int32.ofNat v9) (7 : Int32))) + (own_bit (Int32.ofNat v9) (8 : Int32)))), .val (.int (own_B ds_10 0)), .val (.int (own_B ds_10 1)), .val (.int (own_B ds_10 2)), .unset, .unset, .unset, .unset, .unset, .unset, .unset, .unset] [(.ref li_10)]))
  refine own_st (fun _ k => XS.iconst X28.here hx rfl (hb hby at_394) k) ?_
  refine own_st (fun _ k => XS.lload X28.here hx rfl (hb hby at_395) rfl k) ?_
  obtain ⟨_, _, ⟨T29, L29, k29, n29⟩, -, X29, ⟨Lc29, hQ29, l29, y29, z29⟩, st29⟩ := Jvm.LawKit.callS X28 hx (y := oM25) hown (mvT hZ (oW hw 80 rfl)) (mvT hZ (oW hw 81 rfl)) (mvT hZ (oW hw 19 rfl)) (mvT hZ (oW hw 82 rfl)) (by decide) (backOf (W := 0) (own_bitOf l Z a0 hw [] li_10 (3 : Int32) (own_base p5) N_10 3 ds_10 hh10 n0 Zs11 P10_0 P10_1 P10_2 P10_5 P10_6 (fun d hd => ((hmm d).mp hd).1) rfl (by decide)) hZ (oW hw 82 rfl) (oW hw 19 rfl) (by decide) (by decide)) (g := (mkF m 397 #[.val (.int p1), .val (.int p2), .val (.int p3), .val (.int p4), .val (.long p5), .second, .val (.int (Int32.ofNat c9)), .val (.int g), .val (.long (own_base p5)), .second, .val (.ref ai), .val (.ref li_10), .val (.int (Int32.ofNat v9)), .val (.int (((((((((own_bit (Int32.ofNat v9) (0 : Int32)) + (own_bit (Int32.ofNat v9) (1 : Int32))) + (own_bit (Int32.ofNat v9) (2 : Int32))) + (own_bit (Int32.ofNat v9) (3 : Int32))) + (own_bit (Int32.ofNat v9) (4 : Int32))) + (own_bit (Int32.ofNat v9) (5 : Int32))) + (own_bit (Int32.ofNat v9) (6 : Int32))) + (own_bit (Int32.ofNat v9) (7 : Int32))) + (own_bit (Int32.ofNat v9) (8 : Int32)))), .val (.int (own_B ds_10 0)), .val (.int (own_B ds_10 1)), .val (.int (own_B ds_10 2)), .unset, .unset, .unset, .unset, .unset, .unset, .unset, .unset] [(.long (own_base p5)), (.int 3), (.ref li_10)])) rfl (by rw [hml]; rfl) (argsL := [(.ref li_10), (.int 3), (.long (own_base p5))]) (rest := []) (lenOf own_pd167020003 rfl) rfl (by show 2 * 0 + _ ≤ _; exact Nat.le_of_eq rfl) (hb hby at_397) (fun _ _ => ⟨rfl, e28, (by decide : 16 + 0 ≤ room_1.cells), (by decide : 121 + 0 ≤ room_1.slots)⟩)
  dsimp only [Pt.U, Pt.locs, Pt.cells, Pt.slots] at X29 l29 y29 z29 st29 hQ29
  subst l29 y29 z29
  obtain ⟨hh29, eh029⟩ : ∃ z, T29.heap = z := ⟨_, rfl⟩
  rw [eh029] at hQ29
  obtain ⟨rfl, Nq29, eh29⟩ := hQ29
  have N29 := Fr.app N28 Nq29
  refine own_st st29 ?_
  have e29 : T29.heap = hh10 := eh029.trans eh29
  refine own_st (fun _ k => XS.istore X29.here hx rfl (hb hby at_400) rfl (l' := #[.val (.int p1), .val (.int p2), .val (.int p3), .val (.int p4), .val (.long p5), .second, .val (.int (Int32.ofNat c9)), .val (.int g), .val (.long (own_base p5)), .second, .val (.ref ai), .val (.ref li_10), .val (.int (Int32.ofNat v9)), .val (.int (((((((((own_bit (Int32.ofNat v9) (0 : Int32)) + (own_bit (Int32.ofNat v9) (1 : Int32))) + (own_bit (Int32.ofNat v9) (2 : Int32))) + (own_bit (Int32.ofNat v9) (3 : Int32))) + (own_bit (Int32.ofNat v9) (4 : Int32))) + (own_bit (Int32.ofNat v9) (5 : Int32))) + (own_bit (Int32.ofNat v9) (6 : Int32))) + (own_bit (Int32.ofNat v9) (7 : Int32))) + (own_bit (Int32.ofNat v9) (8 : Int32)))), .val (.int (own_B ds_10 0)), .val (.int (own_B ds_10 1)), .val (.int (own_B ds_10 2)), .val (.int (own_B ds_10 3)), .unset, .unset, .unset, .unset, .unset, .unset, .unset]) rfl k) ?_
  show own_Gl _ _ _ _ _ _ _ (T29.setTop (mkF m 402 #[.val (.int p1), .val (.int p2), .val (.int p3), .val (.int p4), .val (.long p5), .second, .val (.int (Int32.ofNat c9)), .val (.int g), .val (.long (own_base p5)), .second, .val (.ref ai), .val (.ref li_10), .val (.int (Int32.ofNat v9)), .val (.int (((((((((own_bit (Int32.ofNat v9) (0 : Int32)) + (own_bit (Int32.ofNat v9) (1 : Int32))) + (own_bit (Int32.ofNat v9) (2 : Int32))) + (own_bit (Int32.ofNat v9) (3 : Int32))) + (own_bit (Int32.ofNat v9) (4 : Int32))) + (own_bit (Int32.ofNat v9) (5 : Int32))) + (own_bit (Int32.ofNat v9) (6 : Int32))) + (own_bit (Int32.ofNat v9) (7 : Int32))) + (own_bit (Int32.ofNat v9) (8 : Int32)))), .val (.int (own_B ds_10 0)), .val (.int (own_B ds_10 1)), .val (.int (own_B ds_10 2)), .val (.int (own_B ds_10 3)), .unset, .unset, .unset, .unset, .unset, .unset, .unset] []))
  refine own_st (fun _ k => XS.aload X29.here hx rfl (hb hby at_402) rfl rfl k) ?_
  refine own_st (fun _ k => XS.iconst X29.here hx rfl (hb hby at_404) k) ?_
  refine own_st (fun _ k => XS.lload X29.here hx rfl (hb hby at_405) rfl k) ?_
  obtain ⟨_, _, ⟨T30, L30, k30, n30⟩, -, X30, ⟨Lc30, hQ30, l30, y30, z30⟩, st30⟩ := Jvm.LawKit.callS X29 hx (y := oM25) hown (mvT hZ (oW hw 80 rfl)) (mvT hZ (oW hw 81 rfl)) (mvT hZ (oW hw 19 rfl)) (mvT hZ (oW hw 82 rfl)) (by decide) (backOf (W := 0) (own_bitOf l Z a0 hw [] li_10 (4 : Int32) (own_base p5) N_10 4 ds_10 hh10 n0 Zs11 P10_0 P10_1 P10_2 P10_5 P10_6 (fun d hd => ((hmm d).mp hd).1) rfl (by decide)) hZ (oW hw 82 rfl) (oW hw 19 rfl) (by decide) (by decide)) (g := (mkF m 407 #[.val (.int p1), .val (.int p2), .val (.int p3), .val (.int p4), .val (.long p5), .second, .val (.int (Int32.ofNat c9)), .val (.int g), .val (.long (own_base p5)), .second, .val (.ref ai), .val (.ref li_10), .val (.int (Int32.ofNat v9)), .val (.int (((((((((own_bit (Int32.ofNat v9) (0 : Int32)) + (own_bit (Int32.ofNat v9) (1 : Int32))) + (own_bit (Int32.ofNat v9) (2 : Int32))) + (own_bit (Int32.ofNat v9) (3 : Int32))) + (own_bit (Int32.ofNat v9) (4 : Int32))) + (own_bit (Int32.ofNat v9) (5 : Int32))) + (own_bit (Int32.ofNat v9) (6 : Int32))) + (own_bit (Int32.ofNat v9) (7 : Int32))) + (own_bit (Int32.ofNat v9) (8 : Int32)))), .val (.int (own_B ds_10 0)), .val (.int (own_B ds_10 1)), .val (.int (own_B ds_10 2)), .val (.int (own_B ds_10 3)), .unset, .unset, .unset, .unset, .unset, .unset, .unset] [(.long (own_base p5)), (.int 4), (.ref li_10)])) rfl (by rw [hml]; rfl) (argsL := [(.ref li_10), (.int 4), (.long (own_base p5))]) (rest := []) (lenOf own_pd167020003 rfl) rfl (by show 2 * 0 + _ ≤ _; exact Nat.le_of_eq rfl) (hb hby at_407) (fun _ _ => ⟨rfl, e29, (by decide : 16 + 0 ≤ room_1.cells), (by decide : 121 + 0 ≤ room_1.slots)⟩)
  dsimp only [Pt.U, Pt.locs, Pt.cells, Pt.slots] at X30 l30 y30 z30 st30 hQ30
  subst l30 y30 z30
  obtain ⟨hh30, eh030⟩ : ∃ z, T30.heap = z := ⟨_, rfl⟩
  rw [eh030] at hQ30
  obtain ⟨rfl, Nq30, eh30⟩ := hQ30
  have N30 := Fr.app N29 Nq30
  refine own_st st30 ?_
  have e30 : T30.heap = hh10 := eh030.trans eh30
  show own_Gl _ _ _ _ _ _ _ (T30.setTop (mkF m 410 #[.val (.int p1), .val (.int p2), .val (.int p3), .val (.int p4), .val (.long p5), .second, .val (.int (Int32.ofNat c9)), .val (.int g), .val (.long (own_base p5)), .second, .val (.ref ai), .val (.ref li_10), .val (.int (Int32.ofNat v9)), .val (.int (((((((((own_bit (Int32.ofNat v9) (0 : Int32)) + (own_bit (Int32.ofNat v9) (1 : Int32))) + (own_bit (Int32.ofNat v9) (2 : Int32))) + (own_bit (Int32.ofNat v9) (3 : Int32))) + (own_bit (Int32.ofNat v9) (4 : Int32))) + (own_bit (Int32.ofNat v9) (5 : Int32))) + (own_bit (Int32.ofNat v9) (6 : Int32))) + (own_bit (Int32.ofNat v9) (7 : Int32))) + (own_bit (Int32.ofNat v9) (8 : Int32)))), .val (.int (own_B ds_10 0)), .val (.int (own_B ds_10 1)), .val (.int (own_B ds_10 2)), .val (.int (own_B ds_10 3)), .unset, .unset, .unset, .unset, .unset, .unset, .unset] [(.int (own_B ds_10 4))]))
  refine own_st (fun _ k => XS.istore X30.here hx rfl (hb hby at_410) rfl (l' := #[.val (.int p1), .val (.int p2), .val (.int p3), .val (.int p4), .val (.long p5), .second, .val (.int (Int32.ofNat c9)), .val (.int g), .val (.long (own_base p5)), .second, .val (.ref ai), .val (.ref li_10), .val (.int (Int32.ofNat v9)), .val (.int (((((((((own_bit (Int32.ofNat v9) (0 : Int32)) + (own_bit (Int32.ofNat v9) (1 : Int32))) + (own_bit (Int32.ofNat v9) (2 : Int32))) + (own_bit (Int32.ofNat v9) (3 : Int32))) + (own_bit (Int32.ofNat v9) (4 : Int32))) + (own_bit (Int32.ofNat v9) (5 : Int32))) + (own_bit (Int32.ofNat v9) (6 : Int32))) + (own_bit (Int32.ofNat v9) (7 : Int32))) + (own_bit (Int32.ofNat v9) (8 : Int32)))), .val (.int (own_B ds_10 0)), .val (.int (own_B ds_10 1)), .val (.int (own_B ds_10 2)), .val (.int (own_B ds_10 3)), .val (.int (own_B ds_10 4)), .unset, .unset, .unset, .unset, .unset, .unset]) rfl k) ?_
  refine own_st (fun _ k => XS.aload X30.here hx rfl (hb hby at_412) rfl rfl k) ?_
  refine own_st (fun _ k => XS.iconst X30.here hx rfl (hb hby at_414) k) ?_
  refine own_st (fun _ k => XS.lload X30.here hx rfl (hb hby at_415) rfl k) ?_
  show own_Gl _ _ _ _ _ _ _ (T30.setTop (mkF m 417 #[.val (.int p1), .val (.int p2), .val (.int p3), .val (.int p4), .val (.long p5), .second, .val (.int (Int32.ofNat c9)), .val (.int g), .val (.long (own_base p5)), .second, .val (.ref ai), .val (.ref li_10), .val (.int (Int32.ofNat v9)), .val (.int (((((((((own_bit (Int32.ofNat v9) (0 : Int32)) + (own_bit (Int32.ofNat v9) (1 : Int32))) + (own_bit (Int32.ofNat v9) (2 : Int32))) + (own_bit (Int32.ofNat v9) (3 : Int32))) + (own_bit (Int32.ofNat v9) (4 : Int32))) + (own_bit (Int32.ofNat v9) (5 : Int32))) + (own_bit (Int32.ofNat v9) (6 : Int32))) + (own_bit (Int32.ofNat v9) (7 : Int32))) + (own_bit (Int32.ofNat v9) (8 : Int32)))), .val (.int (own_B ds_10 0)), .val (.int (own_B ds_10 1)), .val (.int (own_B ds_10 2)), .val (.int (own_B ds_10 3)), .val (.int (own_B ds_10 4)), .unset, .unset, .unset, .unset, .unset, .unset] [(.long (own_base p5)), (.int 5), (.ref li_10)]))
  obtain ⟨_, _, ⟨T31, L31, k31, n31⟩, -, X31, ⟨Lc31, hQ31, l31, y31, z31⟩, st31⟩ := Jvm.LawKit.callS X30 hx (y := oM25) hown (mvT hZ (oW hw 80 rfl)) (mvT hZ (oW hw 81 rfl)) (mvT hZ (oW hw 19 rfl)) (mvT hZ (oW hw 82 rfl)) (by decide) (backOf (W := 0) (own_bitOf l Z a0 hw [] li_10 (5 : Int32) (own_base p5) N_10 5 ds_10 hh10 n0 Zs11 P10_0 P10_1 P10_2 P10_5 P10_6 (fun d hd => ((hmm d).mp hd).1) rfl (by decide)) hZ (oW hw 82 rfl) (oW hw 19 rfl) (by decide) (by decide)) (g := (mkF m 417 #[.val (.int p1), .val (.int p2), .val (.int p3), .val (.int p4), .val (.long p5), .second, .val (.int (Int32.ofNat c9)), .val (.int g), .val (.long (own_base p5)), .second, .val (.ref ai), .val (.ref li_10), .val (.int (Int32.ofNat v9)), .val (.int (((((((((own_bit (Int32.ofNat v9) (0 : Int32)) + (own_bit (Int32.ofNat v9) (1 : Int32))) + (own_bit (Int32.ofNat v9) (2 : Int32))) + (own_bit (Int32.ofNat v9) (3 : Int32))) + (own_bit (Int32.ofNat v9) (4 : Int32))) + (own_bit (Int32.ofNat v9) (5 : Int32))) + (own_bit (Int32.ofNat v9) (6 : Int32))) + (own_bit (Int32.ofNat v9) (7 : Int32))) + (own_bit (Int32.ofNat v9) (8 : Int32)))), .val (.int (own_B ds_10 0)), .val (.int (own_B ds_10 1)), .val (.int (own_B ds_10 2)), .val (.int (own_B ds_10 3)), .val (.int (own_B ds_10 4)), .unset, .unset, .unset, .unset, .unset, .unset] [(.long (own_base p5)), (.int 5), (.ref li_10)])) rfl (by rw [hml]; rfl) (argsL := [(.ref li_10), (.int 5), (.long (own_base p5))]) (rest := []) (lenOf own_pd167020003 rfl) rfl (by show 2 * 0 + _ ≤ _; exact Nat.le_of_eq rfl) (hb hby at_417) (fun _ _ => ⟨rfl, e30, (by decide : 16 + 0 ≤ room_1.cells), (by decide : 121 + 0 ≤ room_1.slots)⟩)
  dsimp only [Pt.U, Pt.locs, Pt.cells, Pt.slots] at X31 l31 y31 z31 st31 hQ31
  subst l31 y31 z31
  obtain ⟨hh31, eh031⟩ : ∃ z, T31.heap = z := ⟨_, rfl⟩
  rw [eh031] at hQ31
  obtain ⟨rfl, Nq31, eh31⟩ := hQ31
  have N31 := Fr.app N30 Nq31
  refine own_st st31 ?_
  have e31 : T31.heap = hh10 := eh031.trans eh31
  refine own_st (fun _ k => XS.istore X31.here hx rfl (hb hby at_420) rfl (l' := #[.val (.int p1), .val (.int p2), .val (.int p3), .val (.int p4), .val (.long p5), .second, .val (.int (Int32.ofNat c9)), .val (.int g), .val (.long (own_base p5)), .second, .val (.ref ai), .val (.ref li_10), .val (.int (Int32.ofNat v9)), .val (.int (((((((((own_bit (Int32.ofNat v9) (0 : Int32)) + (own_bit (Int32.ofNat v9) (1 : Int32))) + (own_bit (Int32.ofNat v9) (2 : Int32))) + (own_bit (Int32.ofNat v9) (3 : Int32))) + (own_bit (Int32.ofNat v9) (4 : Int32))) + (own_bit (Int32.ofNat v9) (5 : Int32))) + (own_bit (Int32.ofNat v9) (6 : Int32))) + (own_bit (Int32.ofNat v9) (7 : Int32))) + (own_bit (Int32.ofNat v9) (8 : Int32)))), .val (.int (own_B ds_10 0)), .val (.int (own_B ds_10 1)), .val (.int (own_B ds_10 2)), .val (.int (own_B ds_10 3)), .val (.int (own_B ds_10 4)), .val (.int (own_B ds_10 5)), .unset, .unset, .unset, .unset, .unset]) rfl k) ?_
  refine own_st (fun _ k => XS.aload X31.here hx rfl (hb hby at_422) rfl rfl k) ?_
  refine own_st (fun _ k => XS.bipush X31.here hx rfl (hb hby at_424) k) ?_
  show own_Gl _ _ _ _ _ _ _ (T31.setTop (mkF m 426 #[.val (.int p1), .val (.int p2), .val (.int p3), .val (.int p4), .val (.long p5), .second, .val (.int (Int32.ofNat c9)), .val (.int g), .val (.long (own_base p5)), .second, .val (.ref ai), .val (.ref li_10), .val (.int (Int32.ofNat v9)), .val (.int (((((((((own_bit (Int32.ofNat v9) (0 : Int32)) + (own_bit (Int32.ofNat v9) (1 : Int32))) + (own_bit (Int32.ofNat v9) (2 : Int32))) + (own_bit (Int32.ofNat v9) (3 : Int32))) + (own_bit (Int32.ofNat v9) (4 : Int32))) + (own_bit (Int32.ofNat v9) (5 : Int32))) + (own_bit (Int32.ofNat v9) (6 : Int32))) + (own_bit (Int32.ofNat v9) (7 : Int32))) + (own_bit (Int32.ofNat v9) (8 : Int32)))), .val (.int (own_B ds_10 0)), .val (.int (own_B ds_10 1)), .val (.int (own_B ds_10 2)), .val (.int (own_B ds_10 3)), .val (.int (own_B ds_10 4)), .val (.int (own_B ds_10 5)), .unset, .unset, .unset, .unset, .unset] [(.int 6), (.ref li_10)]))
  refine own_st (fun _ k => XS.lload X31.here hx rfl (hb hby at_426) rfl k) ?_
  obtain ⟨_, _, ⟨T32, L32, k32, n32⟩, -, X32, ⟨Lc32, hQ32, l32, y32, z32⟩, st32⟩ := Jvm.LawKit.callS X31 hx (y := oM25) hown (mvT hZ (oW hw 80 rfl)) (mvT hZ (oW hw 81 rfl)) (mvT hZ (oW hw 19 rfl)) (mvT hZ (oW hw 82 rfl)) (by decide) (backOf (W := 0) (own_bitOf l Z a0 hw [] li_10 (6 : Int32) (own_base p5) N_10 6 ds_10 hh10 n0 Zs11 P10_0 P10_1 P10_2 P10_5 P10_6 (fun d hd => ((hmm d).mp hd).1) rfl (by decide)) hZ (oW hw 82 rfl) (oW hw 19 rfl) (by decide) (by decide)) (g := (mkF m 428 #[.val (.int p1), .val (.int p2), .val (.int p3), .val (.int p4), .val (.long p5), .second, .val (.int (Int32.ofNat c9)), .val (.int g), .val (.long (own_base p5)), .second, .val (.ref ai), .val (.ref li_10), .val (.int (Int32.ofNat v9)), .val (.int (((((((((own_bit (Int32.ofNat v9) (0 : Int32)) + (own_bit (Int32.ofNat v9) (1 : Int32))) + (own_bit (Int32.ofNat v9) (2 : Int32))) + (own_bit (Int32.ofNat v9) (3 : Int32))) + (own_bit (Int32.ofNat v9) (4 : Int32))) + (own_bit (Int32.ofNat v9) (5 : Int32))) + (own_bit (Int32.ofNat v9) (6 : Int32))) + (own_bit (Int32.ofNat v9) (7 : Int32))) + (own_bit (Int32.ofNat v9) (8 : Int32)))), .val (.int (own_B ds_10 0)), .val (.int (own_B ds_10 1)), .val (.int (own_B ds_10 2)), .val (.int (own_B ds_10 3)), .val (.int (own_B ds_10 4)), .val (.int (own_B ds_10 5)), .unset, .unset, .unset, .unset, .unset] [(.long (own_base p5)), (.int 6), (.ref li_10)])) rfl (by rw [hml]; rfl) (argsL := [(.ref li_10), (.int 6), (.long (own_base p5))]) (rest := []) (lenOf own_pd167020003 rfl) rfl (by show 2 * 0 + _ ≤ _; exact Nat.le_of_eq rfl) (hb hby at_428) (fun _ _ => ⟨rfl, e31, (by decide : 16 + 0 ≤ room_1.cells), (by decide : 121 + 0 ≤ room_1.slots)⟩)
  dsimp only [Pt.U, Pt.locs, Pt.cells, Pt.slots] at X32 l32 y32 z32 st32 hQ32
  subst l32 y32 z32
  obtain ⟨hh32, eh032⟩ : ∃ z, T32.heap = z := ⟨_, rfl⟩
  rw [eh032] at hQ32
  obtain ⟨rfl, Nq32, eh32⟩ := hQ32
  have N32 := Fr.app N31 Nq32
  refine own_st st32 ?_
  have e32 : T32.heap = hh10 := eh032.trans eh32
  refine own_st (fun _ k => XS.istore X32.here hx rfl (hb hby at_431) rfl (l' := #[.val (.int p1), .val (.int p2), .val (.int p3), .val (.int p4), .val (.long p5), .second, .val (.int (Int32.ofNat c9)), .val (.int g), .val (.long (own_base p5)), .second, .val (.ref ai), .val (.ref li_10), .val (.int (Int32.ofNat v9)), .val (.int (((((((((own_bit (Int32.ofNat v9) (0 : Int32)) + (own_bit (Int32.ofNat v9) (1 : Int32))) + (own_bit (Int32.ofNat v9) (2 : Int32))) + (own_bit (Int32.ofNat v9) (3 : Int32))) + (own_bit (Int32.ofNat v9) (4 : Int32))) + (own_bit (Int32.ofNat v9) (5 : Int32))) + (own_bit (Int32.ofNat v9) (6 : Int32))) + (own_bit (Int32.ofNat v9) (7 : Int32))) + (own_bit (Int32.ofNat v9) (8 : Int32)))), .val (.int (own_B ds_10 0)), .val (.int (own_B ds_10 1)), .val (.int (own_B ds_10 2)), .val (.int (own_B ds_10 3)), .val (.int (own_B ds_10 4)), .val (.int (own_B ds_10 5)), .val (.int (own_B ds_10 6)), .unset, .unset, .unset, .unset]) rfl k) ?_
  refine own_st (fun _ k => XS.aload X32.here hx rfl (hb hby at_433) rfl rfl k) ?_
  show own_Gl _ _ _ _ _ _ _ (T32.setTop (mkF m 435 #[.val (.int p1), .val (.int p2), .val (.int p3), .val (.int p4), .val (.long p5), .second, .val (.int (Int32.ofNat c9)), .val (.int g), .val (.long (own_base p5)), .second, .val (.ref ai), .val (.ref li_10), .val (.int (Int32.ofNat v9)), .val (.int (((((((((own_bit (Int32.ofNat v9) (0 : Int32)) + (own_bit (Int32.ofNat v9) (1 : Int32))) + (own_bit (Int32.ofNat v9) (2 : Int32))) + (own_bit (Int32.ofNat v9) (3 : Int32))) + (own_bit (Int32.ofNat v9) (4 : Int32))) + (own_bit (Int32.ofNat v9) (5 : Int32))) + (own_bit (Int32.ofNat v9) (6 : Int32))) + (own_bit (Int32.ofNat v9) (7 : Int32))) + (own_bit (Int32.ofNat v9) (8 : Int32)))), .val (.int (own_B ds_10 0)), .val (.int (own_B ds_10 1)), .val (.int (own_B ds_10 2)), .val (.int (own_B ds_10 3)), .val (.int (own_B ds_10 4)), .val (.int (own_B ds_10 5)), .val (.int (own_B ds_10 6)), .unset, .unset, .unset, .unset] [(.ref li_10)]))
  refine own_st (fun _ k => XS.bipush X32.here hx rfl (hb hby at_435) k) ?_
  refine own_st (fun _ k => XS.lload X32.here hx rfl (hb hby at_437) rfl k) ?_
  obtain ⟨_, _, ⟨T33, L33, k33, n33⟩, -, X33, ⟨Lc33, hQ33, l33, y33, z33⟩, st33⟩ := Jvm.LawKit.callS X32 hx (y := oM25) hown (mvT hZ (oW hw 80 rfl)) (mvT hZ (oW hw 81 rfl)) (mvT hZ (oW hw 19 rfl)) (mvT hZ (oW hw 82 rfl)) (by decide) (backOf (W := 0) (own_bitOf l Z a0 hw [] li_10 (7 : Int32) (own_base p5) N_10 7 ds_10 hh10 n0 Zs11 P10_0 P10_1 P10_2 P10_5 P10_6 (fun d hd => ((hmm d).mp hd).1) rfl (by decide)) hZ (oW hw 82 rfl) (oW hw 19 rfl) (by decide) (by decide)) (g := (mkF m 439 #[.val (.int p1), .val (.int p2), .val (.int p3), .val (.int p4), .val (.long p5), .second, .val (.int (Int32.ofNat c9)), .val (.int g), .val (.long (own_base p5)), .second, .val (.ref ai), .val (.ref li_10), .val (.int (Int32.ofNat v9)), .val (.int (((((((((own_bit (Int32.ofNat v9) (0 : Int32)) + (own_bit (Int32.ofNat v9) (1 : Int32))) + (own_bit (Int32.ofNat v9) (2 : Int32))) + (own_bit (Int32.ofNat v9) (3 : Int32))) + (own_bit (Int32.ofNat v9) (4 : Int32))) + (own_bit (Int32.ofNat v9) (5 : Int32))) + (own_bit (Int32.ofNat v9) (6 : Int32))) + (own_bit (Int32.ofNat v9) (7 : Int32))) + (own_bit (Int32.ofNat v9) (8 : Int32)))), .val (.int (own_B ds_10 0)), .val (.int (own_B ds_10 1)), .val (.int (own_B ds_10 2)), .val (.int (own_B ds_10 3)), .val (.int (own_B ds_10 4)), .val (.int (own_B ds_10 5)), .val (.int (own_B ds_10 6)), .unset, .unset, .unset, .unset] [(.long (own_base p5)), (.int 7), (.ref li_10)])) rfl (by rw [hml]; rfl) (argsL := [(.ref li_10), (.int 7), (.long (own_base p5))]) (rest := []) (lenOf own_pd167020003 rfl) rfl (by show 2 * 0 + _ ≤ _; exact Nat.le_of_eq rfl) (hb hby at_439) (fun _ _ => ⟨rfl, e32, (by decide : 16 + 0 ≤ room_1.cells), (by decide : 121 + 0 ≤ room_1.slots)⟩)
  dsimp only [Pt.U, Pt.locs, Pt.cells, Pt.slots] at X33 l33 y33 z33 st33 hQ33
  subst l33 y33 z33
  obtain ⟨hh33, eh033⟩ : ∃ z, T33.heap = z := ⟨_, rfl⟩
  rw [eh033] at hQ33
  obtain ⟨rfl, Nq33, eh33⟩ := hQ33
  have N33 := Fr.app N32 Nq33
  refine own_st st33 ?_
  have e33 : T33.heap = hh10 := eh033.trans eh33
  refine own_st (fun _ k => XS.istore X33.here hx rfl (hb hby at_442) rfl (l' := #[.val (.int p1), .val (.int p2), .val (.int p3), .val (.int p4), .val (.long p5), .second, .val (.int (Int32.ofNat c9)), .val (.int g), .val (.long (own_base p5)), .second, .val (.ref ai), .val (.ref li_10), .val (.int (Int32.ofNat v9)), .val (.int (((((((((own_bit (Int32.ofNat v9) (0 : Int32)) + (own_bit (Int32.ofNat v9) (1 : Int32))) + (own_bit (Int32.ofNat v9) (2 : Int32))) + (own_bit (Int32.ofNat v9) (3 : Int32))) + (own_bit (Int32.ofNat v9) (4 : Int32))) + (own_bit (Int32.ofNat v9) (5 : Int32))) + (own_bit (Int32.ofNat v9) (6 : Int32))) + (own_bit (Int32.ofNat v9) (7 : Int32))) + (own_bit (Int32.ofNat v9) (8 : Int32)))), .val (.int (own_B ds_10 0)), .val (.int (own_B ds_10 1)), .val (.int (own_B ds_10 2)), .val (.int (own_B ds_10 3)), .val (.int (own_B ds_10 4)), .val (.int (own_B ds_10 5)), .val (.int (own_B ds_10 6)), .val (.int (own_B ds_10 7)), .unset, .unset, .unset]) rfl k) ?_
  show own_Gl _ _ _ _ _ _ _ (T33.setTop (mkF m 444 #[.val (.int p1), .val (.int p2), .val (.int p3), .val (.int p4), .val (.long p5), .second, .val (.int (Int32.ofNat c9)), .val (.int g), .val (.long (own_base p5)), .second, .val (.ref ai), .val (.ref li_10), .val (.int (Int32.ofNat v9)), .val (.int (((((((((own_bit (Int32.ofNat v9) (0 : Int32)) + (own_bit (Int32.ofNat v9) (1 : Int32))) + (own_bit (Int32.ofNat v9) (2 : Int32))) + (own_bit (Int32.ofNat v9) (3 : Int32))) + (own_bit (Int32.ofNat v9) (4 : Int32))) + (own_bit (Int32.ofNat v9) (5 : Int32))) + (own_bit (Int32.ofNat v9) (6 : Int32))) + (own_bit (Int32.ofNat v9) (7 : Int32))) + (own_bit (Int32.ofNat v9) (8 : Int32)))), .val (.int (own_B ds_10 0)), .val (.int (own_B ds_10 1)), .val (.int (own_B ds_10 2)), .val (.int (own_B ds_10 3)), .val (.int (own_B ds_10 4)), .val (.int (own_B ds_10 5)), .val (.int (own_B ds_10 6)), .val (.int (own_B ds_10 7)), .unset, .unset, .unset] []))
  refine own_st (fun _ k => XS.aload X33.here hx rfl (hb hby at_444) rfl rfl k) ?_
  refine own_st (fun _ k => XS.bipush X33.here hx rfl (hb hby at_446) k) ?_
  refine own_st (fun _ k => XS.lload X33.here hx rfl (hb hby at_448) rfl k) ?_
  obtain ⟨_, _, ⟨T34, L34, k34, n34⟩, -, X34, ⟨Lc34, hQ34, l34, y34, z34⟩, st34⟩ := Jvm.LawKit.callS X33 hx (y := oM25) hown (mvT hZ (oW hw 80 rfl)) (mvT hZ (oW hw 81 rfl)) (mvT hZ (oW hw 19 rfl)) (mvT hZ (oW hw 82 rfl)) (by decide) (backOf (W := 0) (own_bitOf l Z a0 hw [] li_10 (8 : Int32) (own_base p5) N_10 8 ds_10 hh10 n0 Zs11 P10_0 P10_1 P10_2 P10_5 P10_6 (fun d hd => ((hmm d).mp hd).1) rfl (by decide)) hZ (oW hw 82 rfl) (oW hw 19 rfl) (by decide) (by decide)) (g := (mkF m 450 #[.val (.int p1), .val (.int p2), .val (.int p3), .val (.int p4), .val (.long p5), .second, .val (.int (Int32.ofNat c9)), .val (.int g), .val (.long (own_base p5)), .second, .val (.ref ai), .val (.ref li_10), .val (.int (Int32.ofNat v9)), .val (.int (((((((((own_bit (Int32.ofNat v9) (0 : Int32)) + (own_bit (Int32.ofNat v9) (1 : Int32))) + (own_bit (Int32.ofNat v9) (2 : Int32))) + (own_bit (Int32.ofNat v9) (3 : Int32))) + (own_bit (Int32.ofNat v9) (4 : Int32))) + (own_bit (Int32.ofNat v9) (5 : Int32))) + (own_bit (Int32.ofNat v9) (6 : Int32))) + (own_bit (Int32.ofNat v9) (7 : Int32))) + (own_bit (Int32.ofNat v9) (8 : Int32)))), .val (.int (own_B ds_10 0)), .val (.int (own_B ds_10 1)), .val (.int (own_B ds_10 2)), .val (.int (own_B ds_10 3)), .val (.int (own_B ds_10 4)), .val (.int (own_B ds_10 5)), .val (.int (own_B ds_10 6)), .val (.int (own_B ds_10 7)), .unset, .unset, .unset] [(.long (own_base p5)), (.int 8), (.ref li_10)])) rfl (by rw [hml]; rfl) (argsL := [(.ref li_10), (.int 8), (.long (own_base p5))]) (rest := []) (lenOf own_pd167020003 rfl) rfl (by show 2 * 0 + _ ≤ _; exact Nat.le_of_eq rfl) (hb hby at_450) (fun _ _ => ⟨rfl, e33, (by decide : 16 + 0 ≤ room_1.cells), (by decide : 121 + 0 ≤ room_1.slots)⟩)
  dsimp only [Pt.U, Pt.locs, Pt.cells, Pt.slots] at X34 l34 y34 z34 st34 hQ34
  subst l34 y34 z34
  obtain ⟨hh34, eh034⟩ : ∃ z, T34.heap = z := ⟨_, rfl⟩
  rw [eh034] at hQ34
  obtain ⟨rfl, Nq34, eh34⟩ := hQ34
  have N34 := Fr.app N33 Nq34
  refine own_st st34 ?_
  have e34 : T34.heap = hh10 := eh034.trans eh34
  show own_Gl _ _ _ _ _ _ _ (T34.setTop (mkF m 453 #[.val (.int p1), .val (.int p2), .val (.int p3), .val (.int p4), .val (.long p5), .second, .val (.int (Int32.ofNat c9)), .val (.int g), .val (.long (own_base p5)), .second, .val (.ref ai), .val (.ref li_10), .val (.int (Int32.ofNat v9)), .val (.int (((((((((own_bit (Int32.ofNat v9) (0 : Int32)) + (own_bit (Int32.ofNat v9) (1 : Int32))) + (own_bit (Int32.ofNat v9) (2 : Int32))) + (own_bit (Int32.ofNat v9) (3 : Int32))) + (own_bit (Int32.ofNat v9) (4 : Int32))) + (own_bit (Int32.ofNat v9) (5 : Int32))) + (own_bit (Int32.ofNat v9) (6 : Int32))) + (own_bit (Int32.ofNat v9) (7 : Int32))) + (own_bit (Int32.ofNat v9) (8 : Int32)))), .val (.int (own_B ds_10 0)), .val (.int (own_B ds_10 1)), .val (.int (own_B ds_10 2)), .val (.int (own_B ds_10 3)), .val (.int (own_B ds_10 4)), .val (.int (own_B ds_10 5)), .val (.int (own_B ds_10 6)), .val (.int (own_B ds_10 7)), .unset, .unset, .unset] [(.int (own_B ds_10 8))]))
  refine own_st (fun _ k => XS.istore X34.here hx rfl (hb hby at_453) rfl (l' := #[.val (.int p1), .val (.int p2), .val (.int p3), .val (.int p4), .val (.long p5), .second, .val (.int (Int32.ofNat c9)), .val (.int g), .val (.long (own_base p5)), .second, .val (.ref ai), .val (.ref li_10), .val (.int (Int32.ofNat v9)), .val (.int (((((((((own_bit (Int32.ofNat v9) (0 : Int32)) + (own_bit (Int32.ofNat v9) (1 : Int32))) + (own_bit (Int32.ofNat v9) (2 : Int32))) + (own_bit (Int32.ofNat v9) (3 : Int32))) + (own_bit (Int32.ofNat v9) (4 : Int32))) + (own_bit (Int32.ofNat v9) (5 : Int32))) + (own_bit (Int32.ofNat v9) (6 : Int32))) + (own_bit (Int32.ofNat v9) (7 : Int32))) + (own_bit (Int32.ofNat v9) (8 : Int32)))), .val (.int (own_B ds_10 0)), .val (.int (own_B ds_10 1)), .val (.int (own_B ds_10 2)), .val (.int (own_B ds_10 3)), .val (.int (own_B ds_10 4)), .val (.int (own_B ds_10 5)), .val (.int (own_B ds_10 6)), .val (.int (own_B ds_10 7)), .val (.int (own_B ds_10 8)), .unset, .unset]) rfl k) ?_
  refine own_st (fun _ k => XS.iload X34.here hx rfl (hb hby at_455) rfl k) ?_
  refine own_st (fun _ k => XS.iload X34.here hx rfl (hb hby at_457) rfl k) ?_
  refine own_st (fun _ k => XS.ior X34.here hx rfl (hb hby at_459) rfl k) ?_
  show own_Gl _ _ _ _ _ _ _ (T34.setTop (mkF m 460 #[.val (.int p1), .val (.int p2), .val (.int p3), .val (.int p4), .val (.long p5), .second, .val (.int (Int32.ofNat c9)), .val (.int g), .val (.long (own_base p5)), .second, .val (.ref ai), .val (.ref li_10), .val (.int (Int32.ofNat v9)), .val (.int (((((((((own_bit (Int32.ofNat v9) (0 : Int32)) + (own_bit (Int32.ofNat v9) (1 : Int32))) + (own_bit (Int32.ofNat v9) (2 : Int32))) + (own_bit (Int32.ofNat v9) (3 : Int32))) + (own_bit (Int32.ofNat v9) (4 : Int32))) + (own_bit (Int32.ofNat v9) (5 : Int32))) + (own_bit (Int32.ofNat v9) (6 : Int32))) + (own_bit (Int32.ofNat v9) (7 : Int32))) + (own_bit (Int32.ofNat v9) (8 : Int32)))), .val (.int (own_B ds_10 0)), .val (.int (own_B ds_10 1)), .val (.int (own_B ds_10 2)), .val (.int (own_B ds_10 3)), .val (.int (own_B ds_10 4)), .val (.int (own_B ds_10 5)), .val (.int (own_B ds_10 6)), .val (.int (own_B ds_10 7)), .val (.int (own_B ds_10 8)), .unset, .unset] [(.int ((own_B ds_10 0) ||| (own_B ds_10 1)))]))
  refine own_st (fun _ k => XS.iload X34.here hx rfl (hb hby at_460) rfl k) ?_
  refine own_st (fun _ k => XS.ior X34.here hx rfl (hb hby at_462) rfl k) ?_
  refine own_st (fun _ k => XS.iload X34.here hx rfl (hb hby at_463) rfl k) ?_
  refine own_st (fun _ k => XS.ior X34.here hx rfl (hb hby at_465) rfl k) ?_
  show own_Gl _ _ _ _ _ _ _ (T34.setTop (mkF m 466 #[.val (.int p1), .val (.int p2), .val (.int p3), .val (.int p4), .val (.long p5), .second, .val (.int (Int32.ofNat c9)), .val (.int g), .val (.long (own_base p5)), .second, .val (.ref ai), .val (.ref li_10), .val (.int (Int32.ofNat v9)), .val (.int (((((((((own_bit (Int32.ofNat v9) (0 : Int32)) + (own_bit (Int32.ofNat v9) (1 : Int32))) + (own_bit (Int32.ofNat v9) (2 : Int32))) + (own_bit (Int32.ofNat v9) (3 : Int32))) + (own_bit (Int32.ofNat v9) (4 : Int32))) + (own_bit (Int32.ofNat v9) (5 : Int32))) + (own_bit (Int32.ofNat v9) (6 : Int32))) + (own_bit (Int32.ofNat v9) (7 : Int32))) + (own_bit (Int32.ofNat v9) (8 : Int32)))), .val (.int (own_B ds_10 0)), .val (.int (own_B ds_10 1)), .val (.int (own_B ds_10 2)), .val (.int (own_B ds_10 3)), .val (.int (own_B ds_10 4)), .val (.int (own_B ds_10 5)), .val (.int (own_B ds_10 6)), .val (.int (own_B ds_10 7)), .val (.int (own_B ds_10 8)), .unset, .unset] [(.int ((((own_B ds_10 0) ||| (own_B ds_10 1)) ||| (own_B ds_10 2)) ||| (own_B ds_10 3)))]))
  refine own_st (fun _ k => XS.iload X34.here hx rfl (hb hby at_466) rfl k) ?_
  refine own_st (fun _ k => XS.ior X34.here hx rfl (hb hby at_468) rfl k) ?_
  refine own_st (fun _ k => XS.iload X34.here hx rfl (hb hby at_469) rfl k) ?_
  refine own_st (fun _ k => XS.ior X34.here hx rfl (hb hby at_471) rfl k) ?_
  show own_Gl _ _ _ _ _ _ _ (T34.setTop (mkF m 472 #[.val (.int p1), .val (.int p2), .val (.int p3), .val (.int p4), .val (.long p5), .second, .val (.int (Int32.ofNat c9)), .val (.int g), .val (.long (own_base p5)), .second, .val (.ref ai), .val (.ref li_10), .val (.int (Int32.ofNat v9)), .val (.int (((((((((own_bit (Int32.ofNat v9) (0 : Int32)) + (own_bit (Int32.ofNat v9) (1 : Int32))) + (own_bit (Int32.ofNat v9) (2 : Int32))) + (own_bit (Int32.ofNat v9) (3 : Int32))) + (own_bit (Int32.ofNat v9) (4 : Int32))) + (own_bit (Int32.ofNat v9) (5 : Int32))) + (own_bit (Int32.ofNat v9) (6 : Int32))) + (own_bit (Int32.ofNat v9) (7 : Int32))) + (own_bit (Int32.ofNat v9) (8 : Int32)))), .val (.int (own_B ds_10 0)), .val (.int (own_B ds_10 1)), .val (.int (own_B ds_10 2)), .val (.int (own_B ds_10 3)), .val (.int (own_B ds_10 4)), .val (.int (own_B ds_10 5)), .val (.int (own_B ds_10 6)), .val (.int (own_B ds_10 7)), .val (.int (own_B ds_10 8)), .unset, .unset] [(.int ((((((own_B ds_10 0) ||| (own_B ds_10 1)) ||| (own_B ds_10 2)) ||| (own_B ds_10 3)) ||| (own_B ds_10 4)) ||| (own_B ds_10 5)))]))
  refine own_st (fun _ k => XS.iload X34.here hx rfl (hb hby at_472) rfl k) ?_
  refine own_st (fun _ k => XS.ior X34.here hx rfl (hb hby at_474) rfl k) ?_
  refine own_st (fun _ k => XS.iload X34.here hx rfl (hb hby at_475) rfl k) ?_
  refine own_st (fun _ k => XS.ior X34.here hx rfl (hb hby at_477) rfl k) ?_
  show own_Gl _ _ _ _ _ _ _ (T34.setTop (mkF m 478 #[.val (.int p1), .val (.int p2), .val (.int p3), .val (.int p4), .val (.long p5), .second, .val (.int (Int32.ofNat c9)), .val (.int g), .val (.long (own_base p5)), .second, .val (.ref ai), .val (.ref li_10), .val (.int (Int32.ofNat v9)), .val (.int (((((((((own_bit (Int32.ofNat v9) (0 : Int32)) + (own_bit (Int32.ofNat v9) (1 : Int32))) + (own_bit (Int32.ofNat v9) (2 : Int32))) + (own_bit (Int32.ofNat v9) (3 : Int32))) + (own_bit (Int32.ofNat v9) (4 : Int32))) + (own_bit (Int32.ofNat v9) (5 : Int32))) + (own_bit (Int32.ofNat v9) (6 : Int32))) + (own_bit (Int32.ofNat v9) (7 : Int32))) + (own_bit (Int32.ofNat v9) (8 : Int32)))), .val (.int (own_B ds_10 0)), .val (.int (own_B ds_10 1)), .val (.int (own_B ds_10 2)), .val (.int (own_B ds_10 3)), .val (.int (own_B ds_10 4)), .val (.int (own_B ds_10 5)), .val (.int (own_B ds_10 6)), .val (.int (own_B ds_10 7)), .val (.int (own_B ds_10 8)), .unset, .unset] [(.int ((((((((own_B ds_10 0) ||| (own_B ds_10 1)) ||| (own_B ds_10 2)) ||| (own_B ds_10 3)) ||| (own_B ds_10 4)) ||| (own_B ds_10 5)) ||| (own_B ds_10 6)) ||| (own_B ds_10 7)))]))
  refine own_st (fun _ k => XS.iload X34.here hx rfl (hb hby at_478) rfl k) ?_
  refine own_st (fun _ k => XS.ior X34.here hx rfl (hb hby at_480) rfl k) ?_
  refine own_st (fun _ k => XS.istore X34.here hx rfl (hb hby at_481) rfl (l' := #[.val (.int p1), .val (.int p2), .val (.int p3), .val (.int p4), .val (.long p5), .second, .val (.int (Int32.ofNat c9)), .val (.int g), .val (.long (own_base p5)), .second, .val (.ref ai), .val (.ref li_10), .val (.int (Int32.ofNat v9)), .val (.int (((((((((own_bit (Int32.ofNat v9) (0 : Int32)) + (own_bit (Int32.ofNat v9) (1 : Int32))) + (own_bit (Int32.ofNat v9) (2 : Int32))) + (own_bit (Int32.ofNat v9) (3 : Int32))) + (own_bit (Int32.ofNat v9) (4 : Int32))) + (own_bit (Int32.ofNat v9) (5 : Int32))) + (own_bit (Int32.ofNat v9) (6 : Int32))) + (own_bit (Int32.ofNat v9) (7 : Int32))) + (own_bit (Int32.ofNat v9) (8 : Int32)))), .val (.int (own_B ds_10 0)), .val (.int (own_B ds_10 1)), .val (.int (own_B ds_10 2)), .val (.int (own_B ds_10 3)), .val (.int (own_B ds_10 4)), .val (.int (own_B ds_10 5)), .val (.int (own_B ds_10 6)), .val (.int (own_B ds_10 7)), .val (.int (own_B ds_10 8)), .val (.int (((((((((own_B ds_10 0) ||| (own_B ds_10 1)) ||| (own_B ds_10 2)) ||| (own_B ds_10 3)) ||| (own_B ds_10 4)) ||| (own_B ds_10 5)) ||| (own_B ds_10 6)) ||| (own_B ds_10 7)) ||| (own_B ds_10 8))), .unset]) rfl k) ?_
  refine own_st (fun _ k => XS.iload X34.here hx rfl (hb hby at_483) rfl k) ?_
  show own_Gl _ _ _ _ _ _ _ (T34.setTop (mkF m 485 #[.val (.int p1), .val (.int p2), .val (.int p3), .val (.int p4), .val (.long p5), .second, .val (.int (Int32.ofNat c9)), .val (.int g), .val (.long (own_base p5)), .second, .val (.ref ai), .val (.ref li_10), .val (.int (Int32.ofNat v9)), .val (.int (((((((((own_bit (Int32.ofNat v9) (0 : Int32)) + (own_bit (Int32.ofNat v9) (1 : Int32))) + (own_bit (Int32.ofNat v9) (2 : Int32))) + (own_bit (Int32.ofNat v9) (3 : Int32))) + (own_bit (Int32.ofNat v9) (4 : Int32))) + (own_bit (Int32.ofNat v9) (5 : Int32))) + (own_bit (Int32.ofNat v9) (6 : Int32))) + (own_bit (Int32.ofNat v9) (7 : Int32))) + (own_bit (Int32.ofNat v9) (8 : Int32)))), .val (.int (own_B ds_10 0)), .val (.int (own_B ds_10 1)), .val (.int (own_B ds_10 2)), .val (.int (own_B ds_10 3)), .val (.int (own_B ds_10 4)), .val (.int (own_B ds_10 5)), .val (.int (own_B ds_10 6)), .val (.int (own_B ds_10 7)), .val (.int (own_B ds_10 8)), .val (.int (((((((((own_B ds_10 0) ||| (own_B ds_10 1)) ||| (own_B ds_10 2)) ||| (own_B ds_10 3)) ||| (own_B ds_10 4)) ||| (own_B ds_10 5)) ||| (own_B ds_10 6)) ||| (own_B ds_10 7)) ||| (own_B ds_10 8))), .unset] [(.int (own_B ds_10 0))]))
  refine own_st (fun _ k => XS.iload X34.here hx rfl (hb hby at_485) rfl k) ?_
  refine own_st (fun _ k => XS.iadd X34.here hx rfl (hb hby at_487) rfl k) ?_
  refine own_st (fun _ k => XS.iload X34.here hx rfl (hb hby at_488) rfl k) ?_
  refine own_st (fun _ k => XS.iadd X34.here hx rfl (hb hby at_490) rfl k) ?_
  show own_Gl _ _ _ _ _ _ _ (T34.setTop (mkF m 491 #[.val (.int p1), .val (.int p2), .val (.int p3), .val (.int p4), .val (.long p5), .second, .val (.int (Int32.ofNat c9)), .val (.int g), .val (.long (own_base p5)), .second, .val (.ref ai), .val (.ref li_10), .val (.int (Int32.ofNat v9)), .val (.int (((((((((own_bit (Int32.ofNat v9) (0 : Int32)) + (own_bit (Int32.ofNat v9) (1 : Int32))) + (own_bit (Int32.ofNat v9) (2 : Int32))) + (own_bit (Int32.ofNat v9) (3 : Int32))) + (own_bit (Int32.ofNat v9) (4 : Int32))) + (own_bit (Int32.ofNat v9) (5 : Int32))) + (own_bit (Int32.ofNat v9) (6 : Int32))) + (own_bit (Int32.ofNat v9) (7 : Int32))) + (own_bit (Int32.ofNat v9) (8 : Int32)))), .val (.int (own_B ds_10 0)), .val (.int (own_B ds_10 1)), .val (.int (own_B ds_10 2)), .val (.int (own_B ds_10 3)), .val (.int (own_B ds_10 4)), .val (.int (own_B ds_10 5)), .val (.int (own_B ds_10 6)), .val (.int (own_B ds_10 7)), .val (.int (own_B ds_10 8)), .val (.int (((((((((own_B ds_10 0) ||| (own_B ds_10 1)) ||| (own_B ds_10 2)) ||| (own_B ds_10 3)) ||| (own_B ds_10 4)) ||| (own_B ds_10 5)) ||| (own_B ds_10 6)) ||| (own_B ds_10 7)) ||| (own_B ds_10 8))), .unset] [(.int (((own_B ds_10 0) + (own_B ds_10 1)) + (own_B ds_10 2)))]))
  refine own_st (fun _ k => XS.iload X34.here hx rfl (hb hby at_491) rfl k) ?_
  refine own_st (fun _ k => XS.iadd X34.here hx rfl (hb hby at_493) rfl k) ?_
  refine own_st (fun _ k => XS.iload X34.here hx rfl (hb hby at_494) rfl k) ?_
  refine own_st (fun _ k => XS.iadd X34.here hx rfl (hb hby at_496) rfl k) ?_
  show own_Gl _ _ _ _ _ _ _ (T34.setTop (mkF m 497 #[.val (.int p1), .val (.int p2), .val (.int p3), .val (.int p4), .val (.long p5), .second, .val (.int (Int32.ofNat c9)), .val (.int g), .val (.long (own_base p5)), .second, .val (.ref ai), .val (.ref li_10), .val (.int (Int32.ofNat v9)), .val (.int (((((((((own_bit (Int32.ofNat v9) (0 : Int32)) + (own_bit (Int32.ofNat v9) (1 : Int32))) + (own_bit (Int32.ofNat v9) (2 : Int32))) + (own_bit (Int32.ofNat v9) (3 : Int32))) + (own_bit (Int32.ofNat v9) (4 : Int32))) + (own_bit (Int32.ofNat v9) (5 : Int32))) + (own_bit (Int32.ofNat v9) (6 : Int32))) + (own_bit (Int32.ofNat v9) (7 : Int32))) + (own_bit (Int32.ofNat v9) (8 : Int32)))), .val (.int (own_B ds_10 0)), .val (.int (own_B ds_10 1)), .val (.int (own_B ds_10 2)), .val (.int (own_B ds_10 3)), .val (.int (own_B ds_10 4)), .val (.int (own_B ds_10 5)), .val (.int (own_B ds_10 6)), .val (.int (own_B ds_10 7)), .val (.int (own_B ds_10 8)), .val (.int (((((((((own_B ds_10 0) ||| (own_B ds_10 1)) ||| (own_B ds_10 2)) ||| (own_B ds_10 3)) ||| (own_B ds_10 4)) ||| (own_B ds_10 5)) ||| (own_B ds_10 6)) ||| (own_B ds_10 7)) ||| (own_B ds_10 8))), .unset] [(.int (((((own_B ds_10 0) + (own_B ds_10 1)) + (own_B ds_10 2)) + (own_B ds_10 3)) + (own_B ds_10 4)))]))
  refine own_st (fun _ k => XS.iload X34.here hx rfl (hb hby at_497) rfl k) ?_
  refine own_st (fun _ k => XS.iadd X34.here hx rfl (hb hby at_499) rfl k) ?_
  refine own_st (fun _ k => XS.iload X34.here hx rfl (hb hby at_500) rfl k) ?_
  refine own_st (fun _ k => XS.iadd X34.here hx rfl (hb hby at_502) rfl k) ?_
  show own_Gl _ _ _ _ _ _ _ (T34.setTop (mkF m 503 #[.val (.int p1), .val (.int p2), .val (.int p3), .val (.int p4), .val (.long p5), .second, .val (.int (Int32.ofNat c9)), .val (.int g), .val (.long (own_base p5)), .second, .val (.ref ai), .val (.ref li_10), .val (.int (Int32.ofNat v9)), .val (.int (((((((((own_bit (Int32.ofNat v9) (0 : Int32)) + (own_bit (Int32.ofNat v9) (1 : Int32))) + (own_bit (Int32.ofNat v9) (2 : Int32))) + (own_bit (Int32.ofNat v9) (3 : Int32))) + (own_bit (Int32.ofNat v9) (4 : Int32))) + (own_bit (Int32.ofNat v9) (5 : Int32))) + (own_bit (Int32.ofNat v9) (6 : Int32))) + (own_bit (Int32.ofNat v9) (7 : Int32))) + (own_bit (Int32.ofNat v9) (8 : Int32)))), .val (.int (own_B ds_10 0)), .val (.int (own_B ds_10 1)), .val (.int (own_B ds_10 2)), .val (.int (own_B ds_10 3)), .val (.int (own_B ds_10 4)), .val (.int (own_B ds_10 5)), .val (.int (own_B ds_10 6)), .val (.int (own_B ds_10 7)), .val (.int (own_B ds_10 8)), .val (.int (((((((((own_B ds_10 0) ||| (own_B ds_10 1)) ||| (own_B ds_10 2)) ||| (own_B ds_10 3)) ||| (own_B ds_10 4)) ||| (own_B ds_10 5)) ||| (own_B ds_10 6)) ||| (own_B ds_10 7)) ||| (own_B ds_10 8))), .unset] [(.int (((((((own_B ds_10 0) + (own_B ds_10 1)) + (own_B ds_10 2)) + (own_B ds_10 3)) + (own_B ds_10 4)) + (own_B ds_10 5)) + (own_B ds_10 6)))]))
  refine own_st (fun _ k => XS.iload X34.here hx rfl (hb hby at_503) rfl k) ?_
  refine own_st (fun _ k => XS.iadd X34.here hx rfl (hb hby at_505) rfl k) ?_
  refine own_st (fun _ k => XS.iload X34.here hx rfl (hb hby at_506) rfl k) ?_
  refine own_st (fun _ k => XS.iadd X34.here hx rfl (hb hby at_508) rfl k) ?_
  show own_Gl _ _ _ _ _ _ _ (T34.setTop (mkF m 509 #[.val (.int p1), .val (.int p2), .val (.int p3), .val (.int p4), .val (.long p5), .second, .val (.int (Int32.ofNat c9)), .val (.int g), .val (.long (own_base p5)), .second, .val (.ref ai), .val (.ref li_10), .val (.int (Int32.ofNat v9)), .val (.int (((((((((own_bit (Int32.ofNat v9) (0 : Int32)) + (own_bit (Int32.ofNat v9) (1 : Int32))) + (own_bit (Int32.ofNat v9) (2 : Int32))) + (own_bit (Int32.ofNat v9) (3 : Int32))) + (own_bit (Int32.ofNat v9) (4 : Int32))) + (own_bit (Int32.ofNat v9) (5 : Int32))) + (own_bit (Int32.ofNat v9) (6 : Int32))) + (own_bit (Int32.ofNat v9) (7 : Int32))) + (own_bit (Int32.ofNat v9) (8 : Int32)))), .val (.int (own_B ds_10 0)), .val (.int (own_B ds_10 1)), .val (.int (own_B ds_10 2)), .val (.int (own_B ds_10 3)), .val (.int (own_B ds_10 4)), .val (.int (own_B ds_10 5)), .val (.int (own_B ds_10 6)), .val (.int (own_B ds_10 7)), .val (.int (own_B ds_10 8)), .val (.int (((((((((own_B ds_10 0) ||| (own_B ds_10 1)) ||| (own_B ds_10 2)) ||| (own_B ds_10 3)) ||| (own_B ds_10 4)) ||| (own_B ds_10 5)) ||| (own_B ds_10 6)) ||| (own_B ds_10 7)) ||| (own_B ds_10 8))), .unset] [(.int (((((((((own_B ds_10 0) + (own_B ds_10 1)) + (own_B ds_10 2)) + (own_B ds_10 3)) + (own_B ds_10 4)) + (own_B ds_10 5)) + (own_B ds_10 6)) + (own_B ds_10 7)) + (own_B ds_10 8)))]))
  refine own_st (fun _ k => XS.istore X34.here hx rfl (hb hby at_509) rfl (l' := #[.val (.int p1), .val (.int p2), .val (.int p3), .val (.int p4), .val (.long p5), .second, .val (.int (Int32.ofNat c9)), .val (.int g), .val (.long (own_base p5)), .second, .val (.ref ai), .val (.ref li_10), .val (.int (Int32.ofNat v9)), .val (.int (((((((((own_bit (Int32.ofNat v9) (0 : Int32)) + (own_bit (Int32.ofNat v9) (1 : Int32))) + (own_bit (Int32.ofNat v9) (2 : Int32))) + (own_bit (Int32.ofNat v9) (3 : Int32))) + (own_bit (Int32.ofNat v9) (4 : Int32))) + (own_bit (Int32.ofNat v9) (5 : Int32))) + (own_bit (Int32.ofNat v9) (6 : Int32))) + (own_bit (Int32.ofNat v9) (7 : Int32))) + (own_bit (Int32.ofNat v9) (8 : Int32)))), .val (.int (own_B ds_10 0)), .val (.int (own_B ds_10 1)), .val (.int (own_B ds_10 2)), .val (.int (own_B ds_10 3)), .val (.int (own_B ds_10 4)), .val (.int (own_B ds_10 5)), .val (.int (own_B ds_10 6)), .val (.int (own_B ds_10 7)), .val (.int (own_B ds_10 8)), .val (.int (((((((((own_B ds_10 0) ||| (own_B ds_10 1)) ||| (own_B ds_10 2)) ||| (own_B ds_10 3)) ||| (own_B ds_10 4)) ||| (own_B ds_10 5)) ||| (own_B ds_10 6)) ||| (own_B ds_10 7)) ||| (own_B ds_10 8))), .val (.int (((((((((own_B ds_10 0) + (own_B ds_10 1)) + (own_B ds_10 2)) + (own_B ds_10 3)) + (own_B ds_10 4)) + (own_B ds_10 5)) + (own_B ds_10 6)) + (own_B ds_10 7)) + (own_B ds_10 8)))]) rfl k) ?_
  refine own_st (fun _ k => XS.iload X34.here hx rfl (hb hby at_511) rfl k) ?_
  refine own_st (fun _ k => XS.iload X34.here hx rfl (hb hby at_513) rfl k) ?_
  have hd35 : (((((((((own_B ds_10 0) ||| (own_B ds_10 1)) ||| (own_B ds_10 2)) ||| (own_B ds_10 3)) ||| (own_B ds_10 4)) ||| (own_B ds_10 5)) ||| (own_B ds_10 6)) ||| (own_B ds_10 7)) ||| (own_B ds_10 8)) = (Int32.ofNat v9) := hf2
  refine own_st (fun _ k => XS.icmpNo X34.here hx rfl (hb hby at_515) rfl (teq hd35).2 k) ?_
  show own_Gl _ _ _ _ _ _ _ (T34.setTop (mkF m 518 #[.val (.int p1), .val (.int p2), .val (.int p3), .val (.int p4), .val (.long p5), .second, .val (.int (Int32.ofNat c9)), .val (.int g), .val (.long (own_base p5)), .second, .val (.ref ai), .val (.ref li_10), .val (.int (Int32.ofNat v9)), .val (.int (((((((((own_bit (Int32.ofNat v9) (0 : Int32)) + (own_bit (Int32.ofNat v9) (1 : Int32))) + (own_bit (Int32.ofNat v9) (2 : Int32))) + (own_bit (Int32.ofNat v9) (3 : Int32))) + (own_bit (Int32.ofNat v9) (4 : Int32))) + (own_bit (Int32.ofNat v9) (5 : Int32))) + (own_bit (Int32.ofNat v9) (6 : Int32))) + (own_bit (Int32.ofNat v9) (7 : Int32))) + (own_bit (Int32.ofNat v9) (8 : Int32)))), .val (.int (own_B ds_10 0)), .val (.int (own_B ds_10 1)), .val (.int (own_B ds_10 2)), .val (.int (own_B ds_10 3)), .val (.int (own_B ds_10 4)), .val (.int (own_B ds_10 5)), .val (.int (own_B ds_10 6)), .val (.int (own_B ds_10 7)), .val (.int (own_B ds_10 8)), .val (.int (((((((((own_B ds_10 0) ||| (own_B ds_10 1)) ||| (own_B ds_10 2)) ||| (own_B ds_10 3)) ||| (own_B ds_10 4)) ||| (own_B ds_10 5)) ||| (own_B ds_10 6)) ||| (own_B ds_10 7)) ||| (own_B ds_10 8))), .val (.int (((((((((own_B ds_10 0) + (own_B ds_10 1)) + (own_B ds_10 2)) + (own_B ds_10 3)) + (own_B ds_10 4)) + (own_B ds_10 5)) + (own_B ds_10 6)) + (own_B ds_10 7)) + (own_B ds_10 8)))] []))
  refine own_st (fun _ k => XS.iload X34.here hx rfl (hb hby at_518) rfl k) ?_
  refine own_st (fun _ k => XS.iload X34.here hx rfl (hb hby at_520) rfl k) ?_
  have hd36 : (((((((((own_B ds_10 0) + (own_B ds_10 1)) + (own_B ds_10 2)) + (own_B ds_10 3)) + (own_B ds_10 4)) + (own_B ds_10 5)) + (own_B ds_10 6)) + (own_B ds_10 7)) + (own_B ds_10 8)) = (Int32.ofNat v9) := hf3
  refine own_st (fun _ k => XS.icmpNo X34.here hx rfl (hb hby at_522) rfl (teq hd36).2 k) ?_
  refine own_st (fun _ k => XS.iconst X34.here hx rfl (hb hby at_525) k) ?_
  show own_Gl _ _ _ _ _ _ _ (T34.setTop (mkF m 526 #[.val (.int p1), .val (.int p2), .val (.int p3), .val (.int p4), .val (.long p5), .second, .val (.int (Int32.ofNat c9)), .val (.int g), .val (.long (own_base p5)), .second, .val (.ref ai), .val (.ref li_10), .val (.int (Int32.ofNat v9)), .val (.int (((((((((own_bit (Int32.ofNat v9) (0 : Int32)) + (own_bit (Int32.ofNat v9) (1 : Int32))) + (own_bit (Int32.ofNat v9) (2 : Int32))) + (own_bit (Int32.ofNat v9) (3 : Int32))) + (own_bit (Int32.ofNat v9) (4 : Int32))) + (own_bit (Int32.ofNat v9) (5 : Int32))) + (own_bit (Int32.ofNat v9) (6 : Int32))) + (own_bit (Int32.ofNat v9) (7 : Int32))) + (own_bit (Int32.ofNat v9) (8 : Int32)))), .val (.int (own_B ds_10 0)), .val (.int (own_B ds_10 1)), .val (.int (own_B ds_10 2)), .val (.int (own_B ds_10 3)), .val (.int (own_B ds_10 4)), .val (.int (own_B ds_10 5)), .val (.int (own_B ds_10 6)), .val (.int (own_B ds_10 7)), .val (.int (own_B ds_10 8)), .val (.int (((((((((own_B ds_10 0) ||| (own_B ds_10 1)) ||| (own_B ds_10 2)) ||| (own_B ds_10 3)) ||| (own_B ds_10 4)) ||| (own_B ds_10 5)) ||| (own_B ds_10 6)) ||| (own_B ds_10 7)) ||| (own_B ds_10 8))), .val (.int (((((((((own_B ds_10 0) + (own_B ds_10 1)) + (own_B ds_10 2)) + (own_B ds_10 3)) + (own_B ds_10 4)) + (own_B ds_10 5)) + (own_B ds_10 6)) + (own_B ds_10 7)) + (own_B ds_10 8)))] [(.int 1)]))
  refine own_st (fun _ k => XS.goto X34.here hx rfl (pc0 := 526) (pc' := 530) rfl (hb hby at_526) (by decide) (by decide) k) ?_
  show own_Gl _ _ _ _ _ _ _ (T34.setTop (mkF m 530 #[.val (.int p1), .val (.int p2), .val (.int p3), .val (.int p4), .val (.long p5), .second, .val (.int (Int32.ofNat c9)), .val (.int g), .val (.long (own_base p5)), .second, .val (.ref ai), .val (.ref li_10), .val (.int (Int32.ofNat v9)), .val (.int (((((((((own_bit (Int32.ofNat v9) (0 : Int32)) + (own_bit (Int32.ofNat v9) (1 : Int32))) + (own_bit (Int32.ofNat v9) (2 : Int32))) + (own_bit (Int32.ofNat v9) (3 : Int32))) + (own_bit (Int32.ofNat v9) (4 : Int32))) + (own_bit (Int32.ofNat v9) (5 : Int32))) + (own_bit (Int32.ofNat v9) (6 : Int32))) + (own_bit (Int32.ofNat v9) (7 : Int32))) + (own_bit (Int32.ofNat v9) (8 : Int32)))), .val (.int (own_B ds_10 0)), .val (.int (own_B ds_10 1)), .val (.int (own_B ds_10 2)), .val (.int (own_B ds_10 3)), .val (.int (own_B ds_10 4)), .val (.int (own_B ds_10 5)), .val (.int (own_B ds_10 6)), .val (.int (own_B ds_10 7)), .val (.int (own_B ds_10 8)), .val (.int (((((((((own_B ds_10 0) ||| (own_B ds_10 1)) ||| (own_B ds_10 2)) ||| (own_B ds_10 3)) ||| (own_B ds_10 4)) ||| (own_B ds_10 5)) ||| (own_B ds_10 6)) ||| (own_B ds_10 7)) ||| (own_B ds_10 8))), .val (.int (((((((((own_B ds_10 0) + (own_B ds_10 1)) + (own_B ds_10 2)) + (own_B ds_10 3)) + (own_B ds_10 4)) + (own_B ds_10 5)) + (own_B ds_10 6)) + (own_B ds_10 7)) + (own_B ds_10 8)))] [(.int 1)]))
  exact own_retN X34 hx hlk (t := .boolean) hret (by simp) (hb hby at_530) e34 ⟨rfl, N34⟩ (by decide) (by decide)

theorem own_law (l : Launch) (Z : State) (a0 : Array Value) (hw : oT a0 Z) (ws : List Jvm.Cond) (p1 : Int32) (p2 : Int32) (p3 : Int32) (p4 : Int32) (p5 : Int64) (de : Addr) (kd : ClassId) (ca : Addr) (ccl : Cell) (h0 : Heap) (n0 : Nat) (Z0 : n0 ≤ h0.size) (Old0 : Old Z n0 h0) (S_DEFAULTCAPACITY_EMPTY_ELEMENTDATA : Sta Z Z.heap "java/util/ArrayList" "DEFAULTCAPACITY_EMPTY_ELEMENTDATA" "[Ljava/lang/Object;" (.ref de)) (hdeZ : Arv Z Z.heap de kd (.object "java/lang/Object") (0 : Int32) [] .null) (S_cache : Sta Z Z.heap "java/lang/Long$LongCache" "cache" "[Ljava/lang/Long;" (.ref ca)) (hcaZ : Arr Z Z.heap ca ccl (.object "java/lang/Long")) (hcs : ccl.slots.size = (256 : Int32).toNatClampNeg) (hcacheZ : ∀ j : Int32, ¬ j < 0 → j < (256 : Int32) → ∃ r : Addr, ccl.slots[j.toNatClampNeg]? = some (.ref r) ∧ Exa Z Z.heap r "java/lang/Long" ∧ Fld Z Z.heap r "java/lang/Long" "value" "J" (.long (j - (128 : Int32)).toInt64)) :
    MetFree l x (head1 (Jvm.Cond.code x code maxLocals ret :: ws) room_1) (fun xa xU => xa = #[(.int p1), (.int p2), (.int p3), (.int p4), (.long p5)] ∧ Z.Warmed39 xU.vm ∧ xU.heap = h0) (fun _ _ _ _ _ => True) (fun _ xU xo xV => ∃ v L, xo = .returned v ∧ own_Q_own_law Z p1 p2 p3 p4 p5 de kd ca ccl h0 n0 v xV.heap L ∧ FrameEnd xU xo xV L room_1.cells room_1.slots) := by
  refine MetFree.of_bodySF (plainFor_of_name own_pn307481716) hisR ?_
  intro p e s m args below meth c s₁ Bd hml0 hP hK
  obtain ⟨rfl, hZ, hh⟩ := hP
  have hx := Bd.exec
  have hby := Bd.bytes
  have hlk := Bd.notSynchronized
  have hret := Bd.returns
  have hml : c.maxLocals = 25 := hml0
  have hown : s.vm.findClass "com/example/assayline/assayline/core/MessageIndexAddPinLaw" = some m.cls := findClass_of_methodNamed Bd.named
  have hnm := (name_of_methodNamed Bd.named Bd.method).1
  have X0 : Stand p l e room_1 s m #[(.int p1), (.int p2), (.int p3), (.int p4), (.long p5)] below meth c s₁ [] 0 0 := Stand.of_body Bd
  have e0 : s₁.heap = h0 := by rw [← hh, Bd.state]; rfl
  have N0 := Fr.nil n0
  show own_Gl p e below s (own_Q_own_law Z p1 p2 p3 p4 p5 de kd ca ccl h0 n0) room_1.cells room_1.slots _
  refine own_cast (own_ef_own_law m p1 p2 p3 p4 p5) ?_
  show own_Gl _ _ _ _ _ _ _ (s₁.setTop (mkF m 0 #[.val (.int p1), .val (.int p2), .val (.int p3), .val (.int p4), .val (.long p5), .second, .unset, .unset, .unset, .unset, .unset, .unset, .unset, .unset, .unset, .unset, .unset, .unset, .unset, .unset, .unset, .unset, .unset, .unset, .unset] []))
  refine own_st (fun _ k => XS.iloadN X0.here hx rfl (hb hby at_0) rfl k) ?_
  refine own_st (X0.ldcInt hx hown (mvT hZ (oW hw 0 rfl)) (g := (mkF m 1 #[.val (.int p1), .val (.int p2), .val (.int p3), .val (.int p4), .val (.long p5), .second, .unset, .unset, .unset, .unset, .unset, .unset, .unset, .unset, .unset, .unset, .unset, .unset, .unset, .unset, .unset, .unset, .unset, .unset, .unset] [(.int p4)])) rfl (hb hby at_1)) ?_
  refine own_st (fun _ k => XS.iand X0.here hx rfl (hb hby at_3) rfl k) ?_
  refine own_st (fun _ k => XS.bipush X0.here hx rfl (hb hby at_4) k) ?_
  show own_Gl _ _ _ _ _ _ _ (s₁.setTop (mkF m 6 #[.val (.int p1), .val (.int p2), .val (.int p3), .val (.int p4), .val (.long p5), .second, .unset, .unset, .unset, .unset, .unset, .unset, .unset, .unset, .unset, .unset, .unset, .unset, .unset, .unset, .unset, .unset, .unset, .unset, .unset] [(.int 10), (.int (p4 &&& (2147483647 : Int32)))]))
  refine own_st (fun _ k => iremM X0 hx rfl (hb hby at_6) rfl (by decide) k) ?_
  refine own_st (fun _ k => XS.istore X0.here hx rfl (hb hby at_7) rfl (l' := #[.val (.int p1), .val (.int p2), .val (.int p3), .val (.int p4), .val (.long p5), .second, .val (.int ((p4 &&& (2147483647 : Int32)) % (10 : Int32))), .unset, .unset, .unset, .unset, .unset, .unset, .unset, .unset, .unset, .unset, .unset, .unset, .unset, .unset, .unset, .unset, .unset, .unset]) rfl k) ?_
  obtain ⟨c9, hc9, hcn⟩ := own_cn_in p4
  have hcn2 : ((p4 &&& (2147483647 : Int32)) % (10 : Int32)) = Int32.ofNat c9 := hcn
  rw [hcn2]
  show own_Gl _ _ _ _ _ _ _ (s₁.setTop (mkF m 9 #[.val (.int p1), .val (.int p2), .val (.int p3), .val (.int p4), .val (.long p5), .second, .val (.int (Int32.ofNat c9)), .unset, .unset, .unset, .unset, .unset, .unset, .unset, .unset, .unset, .unset, .unset, .unset, .unset, .unset, .unset, .unset, .unset, .unset] []))
  refine own_st (fun _ k => XS.iloadN X0.here hx rfl (hb hby at_9) rfl k) ?_
  refine own_st (fun _ k => XS.iloadN X0.here hx rfl (hb hby at_10) rfl k) ?_
  refine own_st (fun _ k => XS.iconst X0.here hx rfl (hb hby at_11) k) ?_
  refine own_st (fun _ k => XS.ior X0.here hx rfl (hb hby at_12) rfl k) ?_
  show own_Gl _ _ _ _ _ _ _ (s₁.setTop (mkF m 13 #[.val (.int p1), .val (.int p2), .val (.int p3), .val (.int p4), .val (.long p5), .second, .val (.int (Int32.ofNat c9)), .unset, .unset, .unset, .unset, .unset, .unset, .unset, .unset, .unset, .unset, .unset, .unset, .unset, .unset, .unset, .unset, .unset, .unset] [(.int (p2 ||| (1 : Int32))), (.int p1)]))
  refine own_st (fun _ k => XS.ixor X0.here hx rfl (hb hby at_13) rfl k) ?_
  refine own_st (fun _ k => XS.istore X0.here hx rfl (hb hby at_14) rfl (l' := #[.val (.int p1), .val (.int p2), .val (.int p3), .val (.int p4), .val (.long p5), .second, .val (.int (Int32.ofNat c9)), .val (.int (p1 ^^^ (p2 ||| (1 : Int32)))), .unset, .unset, .unset, .unset, .unset, .unset, .unset, .unset, .unset, .unset, .unset, .unset, .unset, .unset, .unset, .unset, .unset]) rfl k) ?_
  obtain ⟨g, hg⟩ : ∃ q, q = (p1 ^^^ (p2 ||| (1 : Int32))) := ⟨_, rfl⟩
  rw [← hg]
  have hgn : ¬ g = p1 := by rw [hg]; exact own_gne p1 p2
  show own_Gl _ _ _ _ _ _ _ (s₁.setTop (mkF m 16 #[.val (.int p1), .val (.int p2), .val (.int p3), .val (.int p4), .val (.long p5), .second, .val (.int (Int32.ofNat c9)), .val (.int g), .unset, .unset, .unset, .unset, .unset, .unset, .unset, .unset, .unset, .unset, .unset, .unset, .unset, .unset, .unset, .unset, .unset] []))
  refine own_st (fun _ k => XS.lload X0.here hx rfl (hb hby at_16) rfl k) ?_
  refine own_st (X0.ldc2Long hx hown (mvT hZ (oW hw 1 rfl)) (g := (mkF m 18 #[.val (.int p1), .val (.int p2), .val (.int p3), .val (.int p4), .val (.long p5), .second, .val (.int (Int32.ofNat c9)), .val (.int g), .unset, .unset, .unset, .unset, .unset, .unset, .unset, .unset, .unset, .unset, .unset, .unset, .unset, .unset, .unset, .unset, .unset] [(.long p5)])) rfl (hb hby at_18)) ?_
  refine own_st (fun _ k => XS.land X0.here hx rfl (hb hby at_21) rfl k) ?_
  refine own_st (fun _ k => XS.iconst X0.here hx rfl (hb hby at_22) k) ?_
  show own_Gl _ _ _ _ _ _ _ (s₁.setTop (mkF m 23 #[.val (.int p1), .val (.int p2), .val (.int p3), .val (.int p4), .val (.long p5), .second, .val (.int (Int32.ofNat c9)), .val (.int g), .unset, .unset, .unset, .unset, .unset, .unset, .unset, .unset, .unset, .unset, .unset, .unset, .unset, .unset, .unset, .unset, .unset] [(.int 4), (.long (p5 &&& (576460752303423487 : Int64)))]))
  refine own_st (fun _ k => XS.lshl X0.here hx rfl (hb hby at_23) rfl k) ?_
  refine own_st (fun _ k => XS.lstore X0.here hx rfl (hb hby at_24) rfl (l' := #[.val (.int p1), .val (.int p2), .val (.int p3), .val (.int p4), .val (.long p5), .second, .val (.int (Int32.ofNat c9)), .val (.int g), .val (.long ((p5 &&& (576460752303423487 : Int64)) <<< ((4 : Int32) &&& 0x3f).toInt64)), .second, .unset, .unset, .unset, .unset, .unset, .unset, .unset, .unset, .unset, .unset, .unset, .unset, .unset, .unset, .unset]) rfl k) ?_
  show own_Gl _ _ _ _ _ _ _ (s₁.setTop (mkF m 26 #[.val (.int p1), .val (.int p2), .val (.int p3), .val (.int p4), .val (.long p5), .second, .val (.int (Int32.ofNat c9)), .val (.int g), .val (.long (own_base p5)), .second, .unset, .unset, .unset, .unset, .unset, .unset, .unset, .unset, .unset, .unset, .unset, .unset, .unset, .unset, .unset] []))
  obtain ⟨T1, h1, X1, e1, E1, A1, D1, -, st1⟩ := newO X0 hx hZ hown (oW hw 2 rfl) (oW hw 3 rfl) (oW hw 4 rfl) e0 (g := (mkF m 26 #[.val (.int p1), .val (.int p2), .val (.int p3), .val (.int p4), .val (.long p5), .second, .val (.int (Int32.ofNat c9)), .val (.int g), .val (.long (own_base p5)), .second, .unset, .unset, .unset, .unset, .unset, .unset, .unset, .unset, .unset, .unset, .unset, .unset, .unset, .unset, .unset] [])) rfl (hb hby at_26) (by decide) (by decide)
  obtain ⟨b1, gb1⟩ : ∃ z, z = h0.size := ⟨_, rfl⟩
  rw [← gb1] at A1 D1 st1
  refine own_st st1 ?_
  have Zs2 : n0 ≤ h1.size := Nat.le_trans Z0 E1.1
  have g_b1 : n0 ≤ b1 := Nat.le_trans Z0 (Nat.le_of_eq gb1.symm)
  have gh_b1 : h0.size ≤ b1 := Nat.le_trans (Keep.refl h0 []).1 (Nat.le_of_eq gb1.symm)
  have F_offsets_b1 : Fld Z h1 b1 "com/example/assayline/assayline/core/MessageIndex" "offsets" "[J" .null := D1 (Or.inl (oW hw 13 rfl)) (ty := (.array .long)) (by decide)
  have F_hashes_b1 : Fld Z h1 b1 "com/example/assayline/assayline/core/MessageIndex" "hashes" "[I" .null := D1 (Or.inl (oW hw 16 rfl)) (ty := (.array .int)) (by decide)
  have F_size_b1 : Fld Z h1 b1 "com/example/assayline/assayline/core/MessageIndex" "size" "I" (.int 0) := D1 (Or.inl (oW hw 27 rfl)) (ty := .int) (by decide)
  refine own_st (fun _ k => XS.dup X1.here hx rfl (hb hby at_29) rfl rfl k) ?_
  obtain ⟨_, _, ⟨T4, L4, k4, n4⟩, -, X4, ⟨Lc4, hQ4, l4, y4, z4⟩, st4⟩ := X1.specialBack hx (y := oM0) rfl hown (mvT hZ (oW hw 5 rfl)) (mvT hZ (oW hw 6 rfl)) (mvT hZ (oW hw 7 rfl)) (by decide) (backOf (W := 1) (own_init l Z a0 hw [] b1 h1 n0 Zs2 A1 F_offsets_b1 F_hashes_b1 F_size_b1 g_b1) hZ (oW hw 7 rfl) (oW hw 4 rfl) (by decide) (by decide)) (g := (mkF m 30 #[.val (.int p1), .val (.int p2), .val (.int p3), .val (.int p4), .val (.long p5), .second, .val (.int (Int32.ofNat c9)), .val (.int g), .val (.long (own_base p5)), .second, .unset, .unset, .unset, .unset, .unset, .unset, .unset, .unset, .unset, .unset, .unset, .unset, .unset, .unset, .unset] [(.ref b1), (.ref b1)])) rfl (by rw [hml]; rfl) (Steps.refl _) (a := b1) (argsL := []) (rest := [(.ref b1)]) (lenOf own_pd691897 rfl) rfl (by show 2 * 0 + _ ≤ _; exact Nat.le_of_eq rfl) (hb hby at_30) (fun _ _ => ⟨rfl, e1, (by decide : 1 + 2 ≤ room_1.cells), (by decide : 3 + 32 ≤ room_1.slots)⟩)
  dsimp only [Pt.U, Pt.locs, Pt.cells, Pt.slots] at X4 l4 y4 z4 st4 hQ4
  subst l4 y4 z4
  obtain ⟨hh4, eh04⟩ : ∃ z, T4.heap = z := ⟨_, rfl⟩
  rw [eh04] at hQ4
  obtain ⟨ob_4, sb_4, ko_4, kh_4, rfl, Nq4, Kq4, P4_0, P4_1, P4_2, P4_3, P4_4, P4_5, P4_6, P4_7, P4_8, P4_9⟩ := hQ4
  have N4 := Fr.app N0 Nq4
  refine own_tr st4 ?_
  have K5 : Keep h0 h1 [] := ((Keep.refl h0 []).ext E1)
  have Zs6 : n0 ≤ hh4.size := Nat.le_trans Zs2 Kq4.1
  have gh_ob_4 : h0.size ≤ ob_4 := Nat.le_trans K5.1 P4_1
  have ne_b1_ob_4 : b1 ≠ ob_4 := Nat.ne_of_lt (Nat.lt_of_lt_of_le A1.lt P4_1)
  have gh_sb_4 : h0.size ≤ sb_4 := Nat.le_trans K5.1 P4_3
  have ne_b1_sb_4 : b1 ≠ sb_4 := Nat.ne_of_lt (Nat.lt_of_lt_of_le A1.lt P4_3)
  refine own_st (fun _ k => XS.astore X4.here hx rfl (hb hby at_33) rfl rfl (l' := #[.val (.int p1), .val (.int p2), .val (.int p3), .val (.int p4), .val (.long p5), .second, .val (.int (Int32.ofNat c9)), .val (.int g), .val (.long (own_base p5)), .second, .val (.ref b1), .unset, .unset, .unset, .unset, .unset, .unset, .unset, .unset, .unset, .unset, .unset, .unset, .unset, .unset]) rfl k) ?_
  show own_Gl _ _ _ _ _ _ _ (T4.setTop (mkF m 35 #[.val (.int p1), .val (.int p2), .val (.int p3), .val (.int p4), .val (.long p5), .second, .val (.int (Int32.ofNat c9)), .val (.int g), .val (.long (own_base p5)), .second, .val (.ref b1), .unset, .unset, .unset, .unset, .unset, .unset, .unset, .unset, .unset, .unset, .unset, .unset, .unset, .unset] []))
  have hof9 : ∀ i, i ≤ 9 → ((own_ofs (own_base p5)) i = 0 ↔ i = 0) ∧ (own_ofs (own_base p5)) i < (9223372036854775807 : Int64) := own_ofs_ok p5
  have Vz7 : Arv Z hh4 ob_4 ko_4 .long (16 : Int32) (own_fj (16 : Int32).toNatClampNeg (fun p => (own_ofs (own_base p5)) ((fun _ => 0) p))) (.long (0 : Int64)) := P4_8
  have Vz8 : Arv Z hh4 sb_4 kh_4 .int (16 : Int32) (own_fl (16 : Int32).toNatClampNeg (fun p => (own_hs p3 p1 g) ((fun _ => 0) p))) (.int 0) := P4_9
  have hok0 : own_ok (own_q (own_hs p3 p1 g) (16 : Int32)) (16 : Int32).toNatClampNeg (fun _ => 0) (own_S 0) 0 := own_ok_iff (own_ok_new _ _) (fun j => ⟨fun q => q.elim, fun q => by unfold own_S at q; omega⟩) rfl
  have J263_9 : ∀ (T9 : State) (LL9 : List Loc) (N9 : Fr n0 LL9) (X9 : Stand p l e room_1 s m #[(.int p1), (.int p2), (.int p3), (.int p4), (.long p5)] below meth c T9 LL9 5 99) (h9 : Heap) (e9 : T9.heap = h9) (ai : Addr) (z : Int32) (ob : Addr) (sb : Addr) (ko : ClassId) (kh : ClassId) (f : Nat → Nat) (Zs9 : n0 ≤ h9.size) (Kj9 : Keep h0 h9 []) (fj9_0 : Exa Z h9 ai "com/example/assayline/assayline/core/MessageIndex") (fj9_1 : Fld Z h9 ai "com/example/assayline/assayline/core/MessageIndex" "offsets" "[J" (.ref ob)) (fj9_2 : Fld Z h9 ai "com/example/assayline/assayline/core/MessageIndex" "hashes" "[I" (.ref sb)) (fj9_3 : Arv Z h9 ob ko .long z (own_fj z.toNatClampNeg (fun p => (own_ofs (own_base p5)) (f p))) (.long (0 : Int64))) (fj9_4 : Arv Z h9 sb kh .int z (own_fl z.toNatClampNeg (fun p => (own_hs p3 p1 g) (f p))) (.int 0)) (fj9_5 : Old Z n0 h9) (hz : z = (16 : Int32) ∨ z = (32 : Int32)) (hok : own_ok (own_q (own_hs p3 p1 g) z) z.toNatClampNeg f (own_S c9) c9), own_Gl p e below s (own_Q_own_law Z p1 p2 p3 p4 p5 de kd ca ccl h0 n0) room_1.cells room_1.slots (T9.setTop (mkF m 263 #[.val (.int p1), .val (.int p2), .val (.int p3), .val (.int p4), .val (.long p5), .second, .val (.int (Int32.ofNat c9)), .val (.int g), .val (.long (own_base p5)), .second, .val (.ref ai), .unset, .unset, .unset, .unset, .unset, .unset, .unset, .unset, .unset, .unset, .unset, .unset, .unset, .unset] [])) := own_own_law_L9 l Z a0 hw p1 p2 p3 p4 p5 de kd ca ccl h0 n0 Z0 Old0 S_DEFAULTCAPACITY_EMPTY_ELEMENTDATA hdeZ S_cache hcaZ hcs hcacheZ hZ hx hby hlk hret hml hown c9 hc9 g hgn hof9
  refine own_st (fun _ k => XS.iload X4.here hx rfl (hb hby at_35) rfl k) ?_
  by_cases hc37 : (0 : Int32) < (Int32.ofNat c9)
  · have hgt0 : 0 < c9 := (own_lt9 0 c9 (by decide) hc9).mp hc37
    refine own_st (fun _ k => XS.ifNo X4.here hx rfl (hb hby at_37) rfl ((if0 _ _).trans (tlt hc37).2.2.2) k) ?_
    refine own_st (fun _ k => XS.aload X4.here hx rfl (hb hby at_40) rfl rfl k) ?_
    refine own_st (fun _ k => XS.iloadN X4.here hx rfl (hb hby at_42) rfl k) ?_
    show own_Gl _ _ _ _ _ _ _ (T4.setTop (mkF m 43 #[.val (.int p1), .val (.int p2), .val (.int p3), .val (.int p4), .val (.long p5), .second, .val (.int (Int32.ofNat c9)), .val (.int g), .val (.long (own_base p5)), .second, .val (.ref b1), .unset, .unset, .unset, .unset, .unset, .unset, .unset, .unset, .unset, .unset, .unset, .unset, .unset, .unset] [(.int p3), (.ref b1)]))
    refine own_st (fun _ k => XS.iconst X4.here hx rfl (hb hby at_43) k) ?_
    refine own_st (fun _ k => XS.iloadN X4.here hx rfl (hb hby at_44) rfl k) ?_
    refine own_st (fun _ k => XS.iload X4.here hx rfl (hb hby at_45) rfl k) ?_
    have f38 := (A1.keep Kq4)
    obtain ⟨_, _, ⟨T37, L37, k37, n37⟩, -, X37, ⟨Lc37, hQ37, l37, y37, z37⟩, st37⟩ := Jvm.LawKit.callS X4 hx (y := oM29) hown (mvT hZ (oW hw 17 rfl)) (mvT hZ (oW hw 18 rfl)) (mvT hZ (oW hw 19 rfl)) (mvT hZ (oW hw 20 rfl)) (by decide) (backOf (W := 1) (own_hashOf l Z a0 hw [] p3 (0 : Int32) p1 g hh4 n0 Zs6 ) hZ (oW hw 20 rfl) (oW hw 19 rfl) (by decide) (by decide)) (g := (mkF m 47 #[.val (.int p1), .val (.int p2), .val (.int p3), .val (.int p4), .val (.long p5), .second, .val (.int (Int32.ofNat c9)), .val (.int g), .val (.long (own_base p5)), .second, .val (.ref b1), .unset, .unset, .unset, .unset, .unset, .unset, .unset, .unset, .unset, .unset, .unset, .unset, .unset, .unset] [(.int g), (.int p1), (.int 0), (.int p3), (.ref b1)])) rfl (by rw [hml]; rfl) (argsL := [(.int p3), (.int 0), (.int p1), (.int g)]) (rest := [(.ref b1)]) (lenOf own_pd492378836 rfl) rfl (by show 2 * 0 + _ ≤ _; exact Nat.le_of_eq rfl) (hb hby at_47) (fun _ _ => ⟨rfl, eh04, (by decide : 3 + 0 ≤ room_1.cells), (by decide : 35 + 0 ≤ room_1.slots)⟩)
    dsimp only [Pt.U, Pt.locs, Pt.cells, Pt.slots] at X37 l37 y37 z37 st37 hQ37
    subst l37 y37 z37
    obtain ⟨hh37, eh037⟩ : ∃ z, T37.heap = z := ⟨_, rfl⟩
    rw [eh037] at hQ37
    obtain ⟨rfl, Nq37, eh37⟩ := hQ37
    have N37 := Fr.app N4 Nq37
    refine own_st st37 ?_
    have e37 : T37.heap = hh4 := eh037.trans eh37
    show own_Gl _ _ _ _ _ _ _ (T37.setTop (mkF m 50 #[.val (.int p1), .val (.int p2), .val (.int p3), .val (.int p4), .val (.long p5), .second, .val (.int (Int32.ofNat c9)), .val (.int g), .val (.long (own_base p5)), .second, .val (.ref b1), .unset, .unset, .unset, .unset, .unset, .unset, .unset, .unset, .unset, .unset, .unset, .unset, .unset, .unset] [(.int (own_hq p3 (0 : Int32) p1 g)), (.ref b1)]))
    refine own_st (fun _ k => XS.lload X37.here hx rfl (hb hby at_50) rfl k) ?_
    refine own_st (fun _ k => XS.lconst X37.here hx rfl (hb hby at_52) k) ?_
    refine own_st (fun _ k => XS.ladd X37.here hx rfl (hb hby at_53) rfl k) ?_
    obtain ⟨cq39, kq39, q39a, q39b, q39c⟩ := isOf hZ e37 f38
    obtain ⟨_, _, ⟨T39, L39, k39, n39⟩, -, X39, ⟨Lc39, hQ39, l39, y39, z39⟩, st39⟩ := X37.virtualBack hx (y := oM5) (z := oM5) hown (mvT hZ (oW hw 21 rfl)) (mvT hZ (oW hw 22 rfl)) (notFace_of_selects (args := #[]) (mvT hZ (oW hw 24 rfl))) (mvT hZ (oW hw 24 rfl)) (mvT hZ (oW hw 23 rfl)) (by decide) (backOf (W := 0) (own_add l Z a0 hw [] b1 (own_hq p3 (0 : Int32) p1 g) ((own_base p5) + (1 : Int64)) ob_4 sb_4 ko_4 kh_4 (0 : Int32) (1 : Int32) (fun _ => 0) (own_ofs (own_base p5)) (own_hs p3 p1 g) 0 hh4 n0 Zs6 f38 P4_5 P4_6 P4_7 Vz7 Vz8 g_b1 P4_0 P4_2 P4_4 ne_b1_ob_4 ne_b1_sb_4 hof9 hok0 (by decide) rfl rfl rfl rfl) hZ (oW hw 25 rfl) (oW hw 4 rfl) (by decide) (by decide)) q39a q39c (g := (mkF m 54 #[.val (.int p1), .val (.int p2), .val (.int p3), .val (.int p4), .val (.long p5), .second, .val (.int (Int32.ofNat c9)), .val (.int g), .val (.long (own_base p5)), .second, .val (.ref b1), .unset, .unset, .unset, .unset, .unset, .unset, .unset, .unset, .unset, .unset, .unset, .unset, .unset, .unset] [(.long ((own_base p5) + (1 : Int64))), (.int (own_hq p3 (0 : Int32) p1 g)), (.ref b1)])) rfl (by rw [hml]; rfl) (Steps.refl _) (argsL := [(.int (own_hq p3 (0 : Int32) p1 g)), (.long ((own_base p5) + (1 : Int64)))]) (rest := []) (lenOf own_pd945382854 rfl) rfl (by show 2 * 0 + _ ≤ _; exact Nat.le_of_eq rfl) (hb hby at_54) (fun _ _ => ⟨rfl, e37, (by decide : 3 + 0 ≤ room_1.cells), (by decide : 35 + 0 ≤ room_1.slots)⟩)
    dsimp only [Pt.U, Pt.locs, Pt.cells, Pt.slots] at X39 l39 y39 z39 st39 hQ39
    subst l39 y39 z39
    obtain ⟨hh39, eh039⟩ : ∃ z, T39.heap = z := ⟨_, rfl⟩
    rw [eh039] at hQ39
    obtain ⟨f2_39, rfl, Nq39, Kq39, P39_0, P39_1, P39_2, P39_3, P39_4, P39_5⟩ := hQ39
    have N39 := Fr.app N37 Nq39
    refine own_tr st39 ?_
    have K40 : Keep h0 hh4 [] := (K5.trans Kq4 (allS (Or.inr gh_b1) all0))
    have Zs41 : n0 ≤ hh39.size := Nat.le_trans Zs6 Kq39.1
    show own_Gl _ _ _ _ _ _ _ (T39.setTop (mkF m 57 #[.val (.int p1), .val (.int p2), .val (.int p3), .val (.int p4), .val (.long p5), .second, .val (.int (Int32.ofNat c9)), .val (.int g), .val (.long (own_base p5)), .second, .val (.ref b1), .unset, .unset, .unset, .unset, .unset, .unset, .unset, .unset, .unset, .unset, .unset, .unset, .unset, .unset] []))
    refine own_st (fun _ k => XS.iload X39.here hx rfl (hb hby at_57) rfl k) ?_
    refine own_st (fun _ k => XS.iconst X39.here hx rfl (hb hby at_59) k) ?_
    by_cases hc60 : (1 : Int32) < (Int32.ofNat c9)
    · have hgt1 : 1 < c9 := (own_lt9 1 c9 (by decide) hc9).mp hc60
      refine own_st (fun _ k => XS.icmpNo X39.here hx rfl (hb hby at_60) rfl (tlt hc60).2.2.2 k) ?_
      refine own_st (fun _ k => XS.aload X39.here hx rfl (hb hby at_63) rfl rfl k) ?_
      show own_Gl _ _ _ _ _ _ _ (T39.setTop (mkF m 65 #[.val (.int p1), .val (.int p2), .val (.int p3), .val (.int p4), .val (.long p5), .second, .val (.int (Int32.ofNat c9)), .val (.int g), .val (.long (own_base p5)), .second, .val (.ref b1), .unset, .unset, .unset, .unset, .unset, .unset, .unset, .unset, .unset, .unset, .unset, .unset, .unset, .unset] [(.ref b1)]))
      refine own_st (fun _ k => XS.iloadN X39.here hx rfl (hb hby at_65) rfl k) ?_
      refine own_st (fun _ k => XS.iconst X39.here hx rfl (hb hby at_66) k) ?_
      refine own_st (fun _ k => XS.iloadN X39.here hx rfl (hb hby at_67) rfl k) ?_
      refine own_st (fun _ k => XS.iload X39.here hx rfl (hb hby at_68) rfl k) ?_
      show own_Gl _ _ _ _ _ _ _ (T39.setTop (mkF m 70 #[.val (.int p1), .val (.int p2), .val (.int p3), .val (.int p4), .val (.long p5), .second, .val (.int (Int32.ofNat c9)), .val (.int g), .val (.long (own_base p5)), .second, .val (.ref b1), .unset, .unset, .unset, .unset, .unset, .unset, .unset, .unset, .unset, .unset, .unset, .unset, .unset, .unset] [(.int g), (.int p1), (.int 1), (.int p3), (.ref b1)]))
      have f43 := (f38.keep Kq39)
      obtain ⟨_, _, ⟨T42, L42, k42, n42⟩, -, X42, ⟨Lc42, hQ42, l42, y42, z42⟩, st42⟩ := Jvm.LawKit.callS X39 hx (y := oM29) hown (mvT hZ (oW hw 17 rfl)) (mvT hZ (oW hw 18 rfl)) (mvT hZ (oW hw 19 rfl)) (mvT hZ (oW hw 20 rfl)) (by decide) (backOf (W := 1) (own_hashOf l Z a0 hw [] p3 (1 : Int32) p1 g hh39 n0 Zs41 ) hZ (oW hw 20 rfl) (oW hw 19 rfl) (by decide) (by decide)) (g := (mkF m 70 #[.val (.int p1), .val (.int p2), .val (.int p3), .val (.int p4), .val (.long p5), .second, .val (.int (Int32.ofNat c9)), .val (.int g), .val (.long (own_base p5)), .second, .val (.ref b1), .unset, .unset, .unset, .unset, .unset, .unset, .unset, .unset, .unset, .unset, .unset, .unset, .unset, .unset] [(.int g), (.int p1), (.int 1), (.int p3), (.ref b1)])) rfl (by rw [hml]; rfl) (argsL := [(.int p3), (.int 1), (.int p1), (.int g)]) (rest := [(.ref b1)]) (lenOf own_pd492378836 rfl) rfl (by show 2 * 0 + _ ≤ _; exact Nat.le_of_eq rfl) (hb hby at_70) (fun _ _ => ⟨rfl, eh039, (by decide : 3 + 0 ≤ room_1.cells), (by decide : 35 + 0 ≤ room_1.slots)⟩)
      dsimp only [Pt.U, Pt.locs, Pt.cells, Pt.slots] at X42 l42 y42 z42 st42 hQ42
      subst l42 y42 z42
      obtain ⟨hh42, eh042⟩ : ∃ z, T42.heap = z := ⟨_, rfl⟩
      rw [eh042] at hQ42
      obtain ⟨rfl, Nq42, eh42⟩ := hQ42
      have N42 := Fr.app N39 Nq42
      refine own_st st42 ?_
      have e42 : T42.heap = hh39 := eh042.trans eh42
      refine own_st (fun _ k => XS.lload X42.here hx rfl (hb hby at_73) rfl k) ?_
      refine own_st (X42.ldc2Long hx hown (mvT hZ (oW hw 83 rfl)) (g := (mkF m 75 #[.val (.int p1), .val (.int p2), .val (.int p3), .val (.int p4), .val (.long p5), .second, .val (.int (Int32.ofNat c9)), .val (.int g), .val (.long (own_base p5)), .second, .val (.ref b1), .unset, .unset, .unset, .unset, .unset, .unset, .unset, .unset, .unset, .unset, .unset, .unset, .unset, .unset] [(.long (own_base p5)), (.int (own_hq p3 (1 : Int32) p1 g)), (.ref b1)])) rfl (hb hby at_75)) ?_
      refine own_st (fun _ k => XS.ladd X42.here hx rfl (hb hby at_78) rfl k) ?_
      show own_Gl _ _ _ _ _ _ _ (T42.setTop (mkF m 79 #[.val (.int p1), .val (.int p2), .val (.int p3), .val (.int p4), .val (.long p5), .second, .val (.int (Int32.ofNat c9)), .val (.int g), .val (.long (own_base p5)), .second, .val (.ref b1), .unset, .unset, .unset, .unset, .unset, .unset, .unset, .unset, .unset, .unset, .unset, .unset, .unset, .unset] [(.long ((own_base p5) + (2 : Int64))), (.int (own_hq p3 (1 : Int32) p1 g)), (.ref b1)]))
      obtain ⟨cq44, kq44, q44a, q44b, q44c⟩ := isOf hZ e42 f43
      obtain ⟨_, _, ⟨T44, L44, k44, n44⟩, -, X44, ⟨Lc44, hQ44, l44, y44, z44⟩, st44⟩ := X42.virtualBack hx (y := oM5) (z := oM5) hown (mvT hZ (oW hw 21 rfl)) (mvT hZ (oW hw 22 rfl)) (notFace_of_selects (args := #[]) (mvT hZ (oW hw 24 rfl))) (mvT hZ (oW hw 24 rfl)) (mvT hZ (oW hw 23 rfl)) (by decide) (backOf (W := 0) (own_add l Z a0 hw [] b1 (own_hq p3 (1 : Int32) p1 g) ((own_base p5) + (2 : Int64)) ob_4 sb_4 ko_4 kh_4 (1 : Int32) (2 : Int32) f2_39 (own_ofs (own_base p5)) (own_hs p3 p1 g) 1 hh39 n0 Zs41 f43 P39_0 P39_1 P39_2 P39_3 P39_4 g_b1 P4_0 P4_2 P4_4 ne_b1_ob_4 ne_b1_sb_4 hof9 P39_5 (by decide) rfl rfl rfl rfl) hZ (oW hw 25 rfl) (oW hw 4 rfl) (by decide) (by decide)) q44a q44c (g := (mkF m 79 #[.val (.int p1), .val (.int p2), .val (.int p3), .val (.int p4), .val (.long p5), .second, .val (.int (Int32.ofNat c9)), .val (.int g), .val (.long (own_base p5)), .second, .val (.ref b1), .unset, .unset, .unset, .unset, .unset, .unset, .unset, .unset, .unset, .unset, .unset, .unset, .unset, .unset] [(.long ((own_base p5) + (2 : Int64))), (.int (own_hq p3 (1 : Int32) p1 g)), (.ref b1)])) rfl (by rw [hml]; rfl) (Steps.refl _) (argsL := [(.int (own_hq p3 (1 : Int32) p1 g)), (.long ((own_base p5) + (2 : Int64)))]) (rest := []) (lenOf own_pd945382854 rfl) rfl (by show 2 * 0 + _ ≤ _; exact Nat.le_of_eq rfl) (hb hby at_79) (fun _ _ => ⟨rfl, e42, (by decide : 3 + 0 ≤ room_1.cells), (by decide : 35 + 0 ≤ room_1.slots)⟩)
      dsimp only [Pt.U, Pt.locs, Pt.cells, Pt.slots] at X44 l44 y44 z44 st44 hQ44
      subst l44 y44 z44
      obtain ⟨hh44, eh044⟩ : ∃ z, T44.heap = z := ⟨_, rfl⟩
      rw [eh044] at hQ44
      obtain ⟨f2_44, rfl, Nq44, Kq44, P44_0, P44_1, P44_2, P44_3, P44_4, P44_5⟩ := hQ44
      have N44 := Fr.app N42 Nq44
      refine own_tr st44 ?_
      have K45 : Keep h0 hh39 [] := (K40.trans Kq39 (allS (Or.inr gh_b1) (allS (Or.inr gh_ob_4) (allS (Or.inr gh_sb_4) all0))))
      have Zs46 : n0 ≤ hh44.size := Nat.le_trans Zs41 Kq44.1
      refine own_st (fun _ k => XS.iload X44.here hx rfl (hb hby at_82) rfl k) ?_
      refine own_st (fun _ k => XS.iconst X44.here hx rfl (hb hby at_84) k) ?_
      by_cases hc85 : (2 : Int32) < (Int32.ofNat c9)
      · have hgt2 : 2 < c9 := (own_lt9 2 c9 (by decide) hc9).mp hc85
        refine own_st (fun _ k => XS.icmpNo X44.here hx rfl (hb hby at_85) rfl (tlt hc85).2.2.2 k) ?_
        show own_Gl _ _ _ _ _ _ _ (T44.setTop (mkF m 88 #[.val (.int p1), .val (.int p2), .val (.int p3), .val (.int p4), .val (.long p5), .second, .val (.int (Int32.ofNat c9)), .val (.int g), .val (.long (own_base p5)), .second, .val (.ref b1), .unset, .unset, .unset, .unset, .unset, .unset, .unset, .unset, .unset, .unset, .unset, .unset, .unset, .unset] []))
        refine own_st (fun _ k => XS.aload X44.here hx rfl (hb hby at_88) rfl rfl k) ?_
        refine own_st (fun _ k => XS.iloadN X44.here hx rfl (hb hby at_90) rfl k) ?_
        refine own_st (fun _ k => XS.iconst X44.here hx rfl (hb hby at_91) k) ?_
        refine own_st (fun _ k => XS.iloadN X44.here hx rfl (hb hby at_92) rfl k) ?_
        show own_Gl _ _ _ _ _ _ _ (T44.setTop (mkF m 93 #[.val (.int p1), .val (.int p2), .val (.int p3), .val (.int p4), .val (.long p5), .second, .val (.int (Int32.ofNat c9)), .val (.int g), .val (.long (own_base p5)), .second, .val (.ref b1), .unset, .unset, .unset, .unset, .unset, .unset, .unset, .unset, .unset, .unset, .unset, .unset, .unset, .unset] [(.int p1), (.int 2), (.int p3), (.ref b1)]))
        refine own_st (fun _ k => XS.iload X44.here hx rfl (hb hby at_93) rfl k) ?_
        have f48 := (f43.keep Kq44)
        obtain ⟨_, _, ⟨T47, L47, k47, n47⟩, -, X47, ⟨Lc47, hQ47, l47, y47, z47⟩, st47⟩ := Jvm.LawKit.callS X44 hx (y := oM29) hown (mvT hZ (oW hw 17 rfl)) (mvT hZ (oW hw 18 rfl)) (mvT hZ (oW hw 19 rfl)) (mvT hZ (oW hw 20 rfl)) (by decide) (backOf (W := 1) (own_hashOf l Z a0 hw [] p3 (2 : Int32) p1 g hh44 n0 Zs46 ) hZ (oW hw 20 rfl) (oW hw 19 rfl) (by decide) (by decide)) (g := (mkF m 95 #[.val (.int p1), .val (.int p2), .val (.int p3), .val (.int p4), .val (.long p5), .second, .val (.int (Int32.ofNat c9)), .val (.int g), .val (.long (own_base p5)), .second, .val (.ref b1), .unset, .unset, .unset, .unset, .unset, .unset, .unset, .unset, .unset, .unset, .unset, .unset, .unset, .unset] [(.int g), (.int p1), (.int 2), (.int p3), (.ref b1)])) rfl (by rw [hml]; rfl) (argsL := [(.int p3), (.int 2), (.int p1), (.int g)]) (rest := [(.ref b1)]) (lenOf own_pd492378836 rfl) rfl (by show 2 * 0 + _ ≤ _; exact Nat.le_of_eq rfl) (hb hby at_95) (fun _ _ => ⟨rfl, eh044, (by decide : 3 + 0 ≤ room_1.cells), (by decide : 35 + 0 ≤ room_1.slots)⟩)
        dsimp only [Pt.U, Pt.locs, Pt.cells, Pt.slots] at X47 l47 y47 z47 st47 hQ47
        subst l47 y47 z47
        obtain ⟨hh47, eh047⟩ : ∃ z, T47.heap = z := ⟨_, rfl⟩
        rw [eh047] at hQ47
        obtain ⟨rfl, Nq47, eh47⟩ := hQ47
        have N47 := Fr.app N44 Nq47
        refine own_st st47 ?_
        have e47 : T47.heap = hh44 := eh047.trans eh47
        refine own_st (fun _ k => XS.lload X47.here hx rfl (hb hby at_98) rfl k) ?_
        refine own_st (X47.ldc2Long hx hown (mvT hZ (oW hw 88 rfl)) (g := (mkF m 100 #[.val (.int p1), .val (.int p2), .val (.int p3), .val (.int p4), .val (.long p5), .second, .val (.int (Int32.ofNat c9)), .val (.int g), .val (.long (own_base p5)), .second, .val (.ref b1), .unset, .unset, .unset, .unset, .unset, .unset, .unset, .unset, .unset, .unset, .unset, .unset, .unset, .unset] [(.long (own_base p5)), (.int (own_hq p3 (2 : Int32) p1 g)), (.ref b1)])) rfl (hb hby at_100)) ?_
        show own_Gl _ _ _ _ _ _ _ (T47.setTop (mkF m 103 #[.val (.int p1), .val (.int p2), .val (.int p3), .val (.int p4), .val (.long p5), .second, .val (.int (Int32.ofNat c9)), .val (.int g), .val (.long (own_base p5)), .second, .val (.ref b1), .unset, .unset, .unset, .unset, .unset, .unset, .unset, .unset, .unset, .unset, .unset, .unset, .unset, .unset] [(.long (3 : Int64)), (.long (own_base p5)), (.int (own_hq p3 (2 : Int32) p1 g)), (.ref b1)]))
        refine own_st (fun _ k => XS.ladd X47.here hx rfl (hb hby at_103) rfl k) ?_
        obtain ⟨cq49, kq49, q49a, q49b, q49c⟩ := isOf hZ e47 f48
        obtain ⟨_, _, ⟨T49, L49, k49, n49⟩, -, X49, ⟨Lc49, hQ49, l49, y49, z49⟩, st49⟩ := X47.virtualBack hx (y := oM5) (z := oM5) hown (mvT hZ (oW hw 21 rfl)) (mvT hZ (oW hw 22 rfl)) (notFace_of_selects (args := #[]) (mvT hZ (oW hw 24 rfl))) (mvT hZ (oW hw 24 rfl)) (mvT hZ (oW hw 23 rfl)) (by decide) (backOf (W := 0) (own_add l Z a0 hw [] b1 (own_hq p3 (2 : Int32) p1 g) ((own_base p5) + (3 : Int64)) ob_4 sb_4 ko_4 kh_4 (2 : Int32) (3 : Int32) f2_44 (own_ofs (own_base p5)) (own_hs p3 p1 g) 2 hh44 n0 Zs46 f48 P44_0 P44_1 P44_2 P44_3 P44_4 g_b1 P4_0 P4_2 P4_4 ne_b1_ob_4 ne_b1_sb_4 hof9 P44_5 (by decide) rfl rfl rfl rfl) hZ (oW hw 25 rfl) (oW hw 4 rfl) (by decide) (by decide)) q49a q49c (g := (mkF m 104 #[.val (.int p1), .val (.int p2), .val (.int p3), .val (.int p4), .val (.long p5), .second, .val (.int (Int32.ofNat c9)), .val (.int g), .val (.long (own_base p5)), .second, .val (.ref b1), .unset, .unset, .unset, .unset, .unset, .unset, .unset, .unset, .unset, .unset, .unset, .unset, .unset, .unset] [(.long ((own_base p5) + (3 : Int64))), (.int (own_hq p3 (2 : Int32) p1 g)), (.ref b1)])) rfl (by rw [hml]; rfl) (Steps.refl _) (argsL := [(.int (own_hq p3 (2 : Int32) p1 g)), (.long ((own_base p5) + (3 : Int64)))]) (rest := []) (lenOf own_pd945382854 rfl) rfl (by show 2 * 0 + _ ≤ _; exact Nat.le_of_eq rfl) (hb hby at_104) (fun _ _ => ⟨rfl, e47, (by decide : 3 + 0 ≤ room_1.cells), (by decide : 35 + 0 ≤ room_1.slots)⟩)
        dsimp only [Pt.U, Pt.locs, Pt.cells, Pt.slots] at X49 l49 y49 z49 st49 hQ49
        subst l49 y49 z49
        obtain ⟨hh49, eh049⟩ : ∃ z, T49.heap = z := ⟨_, rfl⟩
        rw [eh049] at hQ49
        obtain ⟨f2_49, rfl, Nq49, Kq49, P49_0, P49_1, P49_2, P49_3, P49_4, P49_5⟩ := hQ49
        have N49 := Fr.app N47 Nq49
        refine own_tr st49 ?_
        have K50 : Keep h0 hh44 [] := (K45.trans Kq44 (allS (Or.inr gh_b1) (allS (Or.inr gh_ob_4) (allS (Or.inr gh_sb_4) all0))))
        have Zs51 : n0 ≤ hh49.size := Nat.le_trans Zs46 Kq49.1
        refine own_st (fun _ k => XS.iload X49.here hx rfl (hb hby at_107) rfl k) ?_
        refine own_st (fun _ k => XS.iconst X49.here hx rfl (hb hby at_109) k) ?_
        show own_Gl _ _ _ _ _ _ _ (T49.setTop (mkF m 110 #[.val (.int p1), .val (.int p2), .val (.int p3), .val (.int p4), .val (.long p5), .second, .val (.int (Int32.ofNat c9)), .val (.int g), .val (.long (own_base p5)), .second, .val (.ref b1), .unset, .unset, .unset, .unset, .unset, .unset, .unset, .unset, .unset, .unset, .unset, .unset, .unset, .unset] [(.int 3), (.int (Int32.ofNat c9))]))
        by_cases hc110 : (3 : Int32) < (Int32.ofNat c9)
        · have hgt3 : 3 < c9 := (own_lt9 3 c9 (by decide) hc9).mp hc110
          refine own_st (fun _ k => XS.icmpNo X49.here hx rfl (hb hby at_110) rfl (tlt hc110).2.2.2 k) ?_
          refine own_st (fun _ k => XS.aload X49.here hx rfl (hb hby at_113) rfl rfl k) ?_
          refine own_st (fun _ k => XS.iloadN X49.here hx rfl (hb hby at_115) rfl k) ?_
          refine own_st (fun _ k => XS.iconst X49.here hx rfl (hb hby at_116) k) ?_
          show own_Gl _ _ _ _ _ _ _ (T49.setTop (mkF m 117 #[.val (.int p1), .val (.int p2), .val (.int p3), .val (.int p4), .val (.long p5), .second, .val (.int (Int32.ofNat c9)), .val (.int g), .val (.long (own_base p5)), .second, .val (.ref b1), .unset, .unset, .unset, .unset, .unset, .unset, .unset, .unset, .unset, .unset, .unset, .unset, .unset, .unset] [(.int 3), (.int p3), (.ref b1)]))
          refine own_st (fun _ k => XS.iloadN X49.here hx rfl (hb hby at_117) rfl k) ?_
          refine own_st (fun _ k => XS.iload X49.here hx rfl (hb hby at_118) rfl k) ?_
          have f53 := (f48.keep Kq49)
          obtain ⟨_, _, ⟨T52, L52, k52, n52⟩, -, X52, ⟨Lc52, hQ52, l52, y52, z52⟩, st52⟩ := Jvm.LawKit.callS X49 hx (y := oM29) hown (mvT hZ (oW hw 17 rfl)) (mvT hZ (oW hw 18 rfl)) (mvT hZ (oW hw 19 rfl)) (mvT hZ (oW hw 20 rfl)) (by decide) (backOf (W := 1) (own_hashOf l Z a0 hw [] p3 (3 : Int32) p1 g hh49 n0 Zs51 ) hZ (oW hw 20 rfl) (oW hw 19 rfl) (by decide) (by decide)) (g := (mkF m 120 #[.val (.int p1), .val (.int p2), .val (.int p3), .val (.int p4), .val (.long p5), .second, .val (.int (Int32.ofNat c9)), .val (.int g), .val (.long (own_base p5)), .second, .val (.ref b1), .unset, .unset, .unset, .unset, .unset, .unset, .unset, .unset, .unset, .unset, .unset, .unset, .unset, .unset] [(.int g), (.int p1), (.int 3), (.int p3), (.ref b1)])) rfl (by rw [hml]; rfl) (argsL := [(.int p3), (.int 3), (.int p1), (.int g)]) (rest := [(.ref b1)]) (lenOf own_pd492378836 rfl) rfl (by show 2 * 0 + _ ≤ _; exact Nat.le_of_eq rfl) (hb hby at_120) (fun _ _ => ⟨rfl, eh049, (by decide : 3 + 0 ≤ room_1.cells), (by decide : 35 + 0 ≤ room_1.slots)⟩)
          dsimp only [Pt.U, Pt.locs, Pt.cells, Pt.slots] at X52 l52 y52 z52 st52 hQ52
          subst l52 y52 z52
          obtain ⟨hh52, eh052⟩ : ∃ z, T52.heap = z := ⟨_, rfl⟩
          rw [eh052] at hQ52
          obtain ⟨rfl, Nq52, eh52⟩ := hQ52
          have N52 := Fr.app N49 Nq52
          refine own_st st52 ?_
          have e52 : T52.heap = hh49 := eh052.trans eh52
          refine own_st (fun _ k => XS.lload X52.here hx rfl (hb hby at_123) rfl k) ?_
          show own_Gl _ _ _ _ _ _ _ (T52.setTop (mkF m 125 #[.val (.int p1), .val (.int p2), .val (.int p3), .val (.int p4), .val (.long p5), .second, .val (.int (Int32.ofNat c9)), .val (.int g), .val (.long (own_base p5)), .second, .val (.ref b1), .unset, .unset, .unset, .unset, .unset, .unset, .unset, .unset, .unset, .unset, .unset, .unset, .unset, .unset] [(.long (own_base p5)), (.int (own_hq p3 (3 : Int32) p1 g)), (.ref b1)]))
          refine own_st (X52.ldc2Long hx hown (mvT hZ (oW hw 89 rfl)) (g := (mkF m 125 #[.val (.int p1), .val (.int p2), .val (.int p3), .val (.int p4), .val (.long p5), .second, .val (.int (Int32.ofNat c9)), .val (.int g), .val (.long (own_base p5)), .second, .val (.ref b1), .unset, .unset, .unset, .unset, .unset, .unset, .unset, .unset, .unset, .unset, .unset, .unset, .unset, .unset] [(.long (own_base p5)), (.int (own_hq p3 (3 : Int32) p1 g)), (.ref b1)])) rfl (hb hby at_125)) ?_
          refine own_st (fun _ k => XS.ladd X52.here hx rfl (hb hby at_128) rfl k) ?_
          obtain ⟨cq54, kq54, q54a, q54b, q54c⟩ := isOf hZ e52 f53
          obtain ⟨_, _, ⟨T54, L54, k54, n54⟩, -, X54, ⟨Lc54, hQ54, l54, y54, z54⟩, st54⟩ := X52.virtualBack hx (y := oM5) (z := oM5) hown (mvT hZ (oW hw 21 rfl)) (mvT hZ (oW hw 22 rfl)) (notFace_of_selects (args := #[]) (mvT hZ (oW hw 24 rfl))) (mvT hZ (oW hw 24 rfl)) (mvT hZ (oW hw 23 rfl)) (by decide) (backOf (W := 0) (own_add l Z a0 hw [] b1 (own_hq p3 (3 : Int32) p1 g) ((own_base p5) + (4 : Int64)) ob_4 sb_4 ko_4 kh_4 (3 : Int32) (4 : Int32) f2_49 (own_ofs (own_base p5)) (own_hs p3 p1 g) 3 hh49 n0 Zs51 f53 P49_0 P49_1 P49_2 P49_3 P49_4 g_b1 P4_0 P4_2 P4_4 ne_b1_ob_4 ne_b1_sb_4 hof9 P49_5 (by decide) rfl rfl rfl rfl) hZ (oW hw 25 rfl) (oW hw 4 rfl) (by decide) (by decide)) q54a q54c (g := (mkF m 129 #[.val (.int p1), .val (.int p2), .val (.int p3), .val (.int p4), .val (.long p5), .second, .val (.int (Int32.ofNat c9)), .val (.int g), .val (.long (own_base p5)), .second, .val (.ref b1), .unset, .unset, .unset, .unset, .unset, .unset, .unset, .unset, .unset, .unset, .unset, .unset, .unset, .unset] [(.long ((own_base p5) + (4 : Int64))), (.int (own_hq p3 (3 : Int32) p1 g)), (.ref b1)])) rfl (by rw [hml]; rfl) (Steps.refl _) (argsL := [(.int (own_hq p3 (3 : Int32) p1 g)), (.long ((own_base p5) + (4 : Int64)))]) (rest := []) (lenOf own_pd945382854 rfl) rfl (by show 2 * 0 + _ ≤ _; exact Nat.le_of_eq rfl) (hb hby at_129) (fun _ _ => ⟨rfl, e52, (by decide : 3 + 0 ≤ room_1.cells), (by decide : 35 + 0 ≤ room_1.slots)⟩)
          dsimp only [Pt.U, Pt.locs, Pt.cells, Pt.slots] at X54 l54 y54 z54 st54 hQ54
          subst l54 y54 z54
          obtain ⟨hh54, eh054⟩ : ∃ z, T54.heap = z := ⟨_, rfl⟩
          rw [eh054] at hQ54
          obtain ⟨f2_54, rfl, Nq54, Kq54, P54_0, P54_1, P54_2, P54_3, P54_4, P54_5⟩ := hQ54
          have N54 := Fr.app N52 Nq54
          refine own_tr st54 ?_
          have K55 : Keep h0 hh49 [] := (K50.trans Kq49 (allS (Or.inr gh_b1) (allS (Or.inr gh_ob_4) (allS (Or.inr gh_sb_4) all0))))
          have Zs56 : n0 ≤ hh54.size := Nat.le_trans Zs51 Kq54.1
          refine own_st (fun _ k => XS.iload X54.here hx rfl (hb hby at_132) rfl k) ?_
          show own_Gl _ _ _ _ _ _ _ (T54.setTop (mkF m 134 #[.val (.int p1), .val (.int p2), .val (.int p3), .val (.int p4), .val (.long p5), .second, .val (.int (Int32.ofNat c9)), .val (.int g), .val (.long (own_base p5)), .second, .val (.ref b1), .unset, .unset, .unset, .unset, .unset, .unset, .unset, .unset, .unset, .unset, .unset, .unset, .unset, .unset] [(.int (Int32.ofNat c9))]))
          refine own_st (fun _ k => XS.iconst X54.here hx rfl (hb hby at_134) k) ?_
          by_cases hc135 : (4 : Int32) < (Int32.ofNat c9)
          · have hgt4 : 4 < c9 := (own_lt9 4 c9 (by decide) hc9).mp hc135
            refine own_st (fun _ k => XS.icmpNo X54.here hx rfl (hb hby at_135) rfl (tlt hc135).2.2.2 k) ?_
            refine own_st (fun _ k => XS.aload X54.here hx rfl (hb hby at_138) rfl rfl k) ?_
            refine own_st (fun _ k => XS.iloadN X54.here hx rfl (hb hby at_140) rfl k) ?_
            show own_Gl _ _ _ _ _ _ _ (T54.setTop (mkF m 141 #[.val (.int p1), .val (.int p2), .val (.int p3), .val (.int p4), .val (.long p5), .second, .val (.int (Int32.ofNat c9)), .val (.int g), .val (.long (own_base p5)), .second, .val (.ref b1), .unset, .unset, .unset, .unset, .unset, .unset, .unset, .unset, .unset, .unset, .unset, .unset, .unset, .unset] [(.int p3), (.ref b1)]))
            refine own_st (fun _ k => XS.iconst X54.here hx rfl (hb hby at_141) k) ?_
            refine own_st (fun _ k => XS.iloadN X54.here hx rfl (hb hby at_142) rfl k) ?_
            refine own_st (fun _ k => XS.iload X54.here hx rfl (hb hby at_143) rfl k) ?_
            have f58 := (f53.keep Kq54)
            obtain ⟨_, _, ⟨T57, L57, k57, n57⟩, -, X57, ⟨Lc57, hQ57, l57, y57, z57⟩, st57⟩ := Jvm.LawKit.callS X54 hx (y := oM29) hown (mvT hZ (oW hw 17 rfl)) (mvT hZ (oW hw 18 rfl)) (mvT hZ (oW hw 19 rfl)) (mvT hZ (oW hw 20 rfl)) (by decide) (backOf (W := 1) (own_hashOf l Z a0 hw [] p3 (4 : Int32) p1 g hh54 n0 Zs56 ) hZ (oW hw 20 rfl) (oW hw 19 rfl) (by decide) (by decide)) (g := (mkF m 145 #[.val (.int p1), .val (.int p2), .val (.int p3), .val (.int p4), .val (.long p5), .second, .val (.int (Int32.ofNat c9)), .val (.int g), .val (.long (own_base p5)), .second, .val (.ref b1), .unset, .unset, .unset, .unset, .unset, .unset, .unset, .unset, .unset, .unset, .unset, .unset, .unset, .unset] [(.int g), (.int p1), (.int 4), (.int p3), (.ref b1)])) rfl (by rw [hml]; rfl) (argsL := [(.int p3), (.int 4), (.int p1), (.int g)]) (rest := [(.ref b1)]) (lenOf own_pd492378836 rfl) rfl (by show 2 * 0 + _ ≤ _; exact Nat.le_of_eq rfl) (hb hby at_145) (fun _ _ => ⟨rfl, eh054, (by decide : 3 + 0 ≤ room_1.cells), (by decide : 35 + 0 ≤ room_1.slots)⟩)
            dsimp only [Pt.U, Pt.locs, Pt.cells, Pt.slots] at X57 l57 y57 z57 st57 hQ57
            subst l57 y57 z57
            obtain ⟨hh57, eh057⟩ : ∃ z, T57.heap = z := ⟨_, rfl⟩
            rw [eh057] at hQ57
            obtain ⟨rfl, Nq57, eh57⟩ := hQ57
            have N57 := Fr.app N54 Nq57
            refine own_st st57 ?_
            have e57 : T57.heap = hh54 := eh057.trans eh57
            show own_Gl _ _ _ _ _ _ _ (T57.setTop (mkF m 148 #[.val (.int p1), .val (.int p2), .val (.int p3), .val (.int p4), .val (.long p5), .second, .val (.int (Int32.ofNat c9)), .val (.int g), .val (.long (own_base p5)), .second, .val (.ref b1), .unset, .unset, .unset, .unset, .unset, .unset, .unset, .unset, .unset, .unset, .unset, .unset, .unset, .unset] [(.int (own_hq p3 (4 : Int32) p1 g)), (.ref b1)]))
            refine own_st (fun _ k => XS.lload X57.here hx rfl (hb hby at_148) rfl k) ?_
            refine own_st (X57.ldc2Long hx hown (mvT hZ (oW hw 90 rfl)) (g := (mkF m 150 #[.val (.int p1), .val (.int p2), .val (.int p3), .val (.int p4), .val (.long p5), .second, .val (.int (Int32.ofNat c9)), .val (.int g), .val (.long (own_base p5)), .second, .val (.ref b1), .unset, .unset, .unset, .unset, .unset, .unset, .unset, .unset, .unset, .unset, .unset, .unset, .unset, .unset] [(.long (own_base p5)), (.int (own_hq p3 (4 : Int32) p1 g)), (.ref b1)])) rfl (hb hby at_150)) ?_
            refine own_st (fun _ k => XS.ladd X57.here hx rfl (hb hby at_153) rfl k) ?_
            obtain ⟨cq59, kq59, q59a, q59b, q59c⟩ := isOf hZ e57 f58
            obtain ⟨_, _, ⟨T59, L59, k59, n59⟩, -, X59, ⟨Lc59, hQ59, l59, y59, z59⟩, st59⟩ := X57.virtualBack hx (y := oM5) (z := oM5) hown (mvT hZ (oW hw 21 rfl)) (mvT hZ (oW hw 22 rfl)) (notFace_of_selects (args := #[]) (mvT hZ (oW hw 24 rfl))) (mvT hZ (oW hw 24 rfl)) (mvT hZ (oW hw 23 rfl)) (by decide) (backOf (W := 0) (own_add l Z a0 hw [] b1 (own_hq p3 (4 : Int32) p1 g) ((own_base p5) + (5 : Int64)) ob_4 sb_4 ko_4 kh_4 (4 : Int32) (5 : Int32) f2_54 (own_ofs (own_base p5)) (own_hs p3 p1 g) 4 hh54 n0 Zs56 f58 P54_0 P54_1 P54_2 P54_3 P54_4 g_b1 P4_0 P4_2 P4_4 ne_b1_ob_4 ne_b1_sb_4 hof9 P54_5 (by decide) rfl rfl rfl rfl) hZ (oW hw 25 rfl) (oW hw 4 rfl) (by decide) (by decide)) q59a q59c (g := (mkF m 154 #[.val (.int p1), .val (.int p2), .val (.int p3), .val (.int p4), .val (.long p5), .second, .val (.int (Int32.ofNat c9)), .val (.int g), .val (.long (own_base p5)), .second, .val (.ref b1), .unset, .unset, .unset, .unset, .unset, .unset, .unset, .unset, .unset, .unset, .unset, .unset, .unset, .unset] [(.long ((own_base p5) + (5 : Int64))), (.int (own_hq p3 (4 : Int32) p1 g)), (.ref b1)])) rfl (by rw [hml]; rfl) (Steps.refl _) (argsL := [(.int (own_hq p3 (4 : Int32) p1 g)), (.long ((own_base p5) + (5 : Int64)))]) (rest := []) (lenOf own_pd945382854 rfl) rfl (by show 2 * 0 + _ ≤ _; exact Nat.le_of_eq rfl) (hb hby at_154) (fun _ _ => ⟨rfl, e57, (by decide : 3 + 0 ≤ room_1.cells), (by decide : 35 + 0 ≤ room_1.slots)⟩)
            dsimp only [Pt.U, Pt.locs, Pt.cells, Pt.slots] at X59 l59 y59 z59 st59 hQ59
            subst l59 y59 z59
            obtain ⟨hh59, eh059⟩ : ∃ z, T59.heap = z := ⟨_, rfl⟩
            rw [eh059] at hQ59
            obtain ⟨f2_59, rfl, Nq59, Kq59, P59_0, P59_1, P59_2, P59_3, P59_4, P59_5⟩ := hQ59
            have N59 := Fr.app N57 Nq59
            refine own_tr st59 ?_
            have K60 : Keep h0 hh54 [] := (K55.trans Kq54 (allS (Or.inr gh_b1) (allS (Or.inr gh_ob_4) (allS (Or.inr gh_sb_4) all0))))
            have Zs61 : n0 ≤ hh59.size := Nat.le_trans Zs56 Kq59.1
            show own_Gl _ _ _ _ _ _ _ (T59.setTop (mkF m 157 #[.val (.int p1), .val (.int p2), .val (.int p3), .val (.int p4), .val (.long p5), .second, .val (.int (Int32.ofNat c9)), .val (.int g), .val (.long (own_base p5)), .second, .val (.ref b1), .unset, .unset, .unset, .unset, .unset, .unset, .unset, .unset, .unset, .unset, .unset, .unset, .unset, .unset] []))
            refine own_st (fun _ k => XS.iload X59.here hx rfl (hb hby at_157) rfl k) ?_
            refine own_st (fun _ k => XS.iconst X59.here hx rfl (hb hby at_159) k) ?_
            by_cases hc160 : (5 : Int32) < (Int32.ofNat c9)
            · have hgt5 : 5 < c9 := (own_lt9 5 c9 (by decide) hc9).mp hc160
              refine own_st (fun _ k => XS.icmpNo X59.here hx rfl (hb hby at_160) rfl (tlt hc160).2.2.2 k) ?_
              refine own_st (fun _ k => XS.aload X59.here hx rfl (hb hby at_163) rfl rfl k) ?_
              show own_Gl _ _ _ _ _ _ _ (T59.setTop (mkF m 165 #[.val (.int p1), .val (.int p2), .val (.int p3), .val (.int p4), .val (.long p5), .second, .val (.int (Int32.ofNat c9)), .val (.int g), .val (.long (own_base p5)), .second, .val (.ref b1), .unset, .unset, .unset, .unset, .unset, .unset, .unset, .unset, .unset, .unset, .unset, .unset, .unset, .unset] [(.ref b1)]))
              refine own_st (fun _ k => XS.iloadN X59.here hx rfl (hb hby at_165) rfl k) ?_
              refine own_st (fun _ k => XS.iconst X59.here hx rfl (hb hby at_166) k) ?_
              refine own_st (fun _ k => XS.iloadN X59.here hx rfl (hb hby at_167) rfl k) ?_
              refine own_st (fun _ k => XS.iload X59.here hx rfl (hb hby at_168) rfl k) ?_
              show own_Gl _ _ _ _ _ _ _ (T59.setTop (mkF m 170 #[.val (.int p1), .val (.int p2), .val (.int p3), .val (.int p4), .val (.long p5), .second, .val (.int (Int32.ofNat c9)), .val (.int g), .val (.long (own_base p5)), .second, .val (.ref b1), .unset, .unset, .unset, .unset, .unset, .unset, .unset, .unset, .unset, .unset, .unset, .unset, .unset, .unset] [(.int g), (.int p1), (.int 5), (.int p3), (.ref b1)]))
              have f63 := (f58.keep Kq59)
              obtain ⟨_, _, ⟨T62, L62, k62, n62⟩, -, X62, ⟨Lc62, hQ62, l62, y62, z62⟩, st62⟩ := Jvm.LawKit.callS X59 hx (y := oM29) hown (mvT hZ (oW hw 17 rfl)) (mvT hZ (oW hw 18 rfl)) (mvT hZ (oW hw 19 rfl)) (mvT hZ (oW hw 20 rfl)) (by decide) (backOf (W := 1) (own_hashOf l Z a0 hw [] p3 (5 : Int32) p1 g hh59 n0 Zs61 ) hZ (oW hw 20 rfl) (oW hw 19 rfl) (by decide) (by decide)) (g := (mkF m 170 #[.val (.int p1), .val (.int p2), .val (.int p3), .val (.int p4), .val (.long p5), .second, .val (.int (Int32.ofNat c9)), .val (.int g), .val (.long (own_base p5)), .second, .val (.ref b1), .unset, .unset, .unset, .unset, .unset, .unset, .unset, .unset, .unset, .unset, .unset, .unset, .unset, .unset] [(.int g), (.int p1), (.int 5), (.int p3), (.ref b1)])) rfl (by rw [hml]; rfl) (argsL := [(.int p3), (.int 5), (.int p1), (.int g)]) (rest := [(.ref b1)]) (lenOf own_pd492378836 rfl) rfl (by show 2 * 0 + _ ≤ _; exact Nat.le_of_eq rfl) (hb hby at_170) (fun _ _ => ⟨rfl, eh059, (by decide : 3 + 0 ≤ room_1.cells), (by decide : 35 + 0 ≤ room_1.slots)⟩)
              dsimp only [Pt.U, Pt.locs, Pt.cells, Pt.slots] at X62 l62 y62 z62 st62 hQ62
              subst l62 y62 z62
              obtain ⟨hh62, eh062⟩ : ∃ z, T62.heap = z := ⟨_, rfl⟩
              rw [eh062] at hQ62
              obtain ⟨rfl, Nq62, eh62⟩ := hQ62
              have N62 := Fr.app N59 Nq62
              refine own_st st62 ?_
              have e62 : T62.heap = hh59 := eh062.trans eh62
              refine own_st (fun _ k => XS.lload X62.here hx rfl (hb hby at_173) rfl k) ?_
              refine own_st (X62.ldc2Long hx hown (mvT hZ (oW hw 91 rfl)) (g := (mkF m 175 #[.val (.int p1), .val (.int p2), .val (.int p3), .val (.int p4), .val (.long p5), .second, .val (.int (Int32.ofNat c9)), .val (.int g), .val (.long (own_base p5)), .second, .val (.ref b1), .unset, .unset, .unset, .unset, .unset, .unset, .unset, .unset, .unset, .unset, .unset, .unset, .unset, .unset] [(.long (own_base p5)), (.int (own_hq p3 (5 : Int32) p1 g)), (.ref b1)])) rfl (hb hby at_175)) ?_
              refine own_st (fun _ k => XS.ladd X62.here hx rfl (hb hby at_178) rfl k) ?_
              show own_Gl _ _ _ _ _ _ _ (T62.setTop (mkF m 179 #[.val (.int p1), .val (.int p2), .val (.int p3), .val (.int p4), .val (.long p5), .second, .val (.int (Int32.ofNat c9)), .val (.int g), .val (.long (own_base p5)), .second, .val (.ref b1), .unset, .unset, .unset, .unset, .unset, .unset, .unset, .unset, .unset, .unset, .unset, .unset, .unset, .unset] [(.long ((own_base p5) + (6 : Int64))), (.int (own_hq p3 (5 : Int32) p1 g)), (.ref b1)]))
              obtain ⟨cq64, kq64, q64a, q64b, q64c⟩ := isOf hZ e62 f63
              obtain ⟨_, _, ⟨T64, L64, k64, n64⟩, -, X64, ⟨Lc64, hQ64, l64, y64, z64⟩, st64⟩ := X62.virtualBack hx (y := oM5) (z := oM5) hown (mvT hZ (oW hw 21 rfl)) (mvT hZ (oW hw 22 rfl)) (notFace_of_selects (args := #[]) (mvT hZ (oW hw 24 rfl))) (mvT hZ (oW hw 24 rfl)) (mvT hZ (oW hw 23 rfl)) (by decide) (backOf (W := 0) (own_add l Z a0 hw [] b1 (own_hq p3 (5 : Int32) p1 g) ((own_base p5) + (6 : Int64)) ob_4 sb_4 ko_4 kh_4 (5 : Int32) (6 : Int32) f2_59 (own_ofs (own_base p5)) (own_hs p3 p1 g) 5 hh59 n0 Zs61 f63 P59_0 P59_1 P59_2 P59_3 P59_4 g_b1 P4_0 P4_2 P4_4 ne_b1_ob_4 ne_b1_sb_4 hof9 P59_5 (by decide) rfl rfl rfl rfl) hZ (oW hw 25 rfl) (oW hw 4 rfl) (by decide) (by decide)) q64a q64c (g := (mkF m 179 #[.val (.int p1), .val (.int p2), .val (.int p3), .val (.int p4), .val (.long p5), .second, .val (.int (Int32.ofNat c9)), .val (.int g), .val (.long (own_base p5)), .second, .val (.ref b1), .unset, .unset, .unset, .unset, .unset, .unset, .unset, .unset, .unset, .unset, .unset, .unset, .unset, .unset] [(.long ((own_base p5) + (6 : Int64))), (.int (own_hq p3 (5 : Int32) p1 g)), (.ref b1)])) rfl (by rw [hml]; rfl) (Steps.refl _) (argsL := [(.int (own_hq p3 (5 : Int32) p1 g)), (.long ((own_base p5) + (6 : Int64)))]) (rest := []) (lenOf own_pd945382854 rfl) rfl (by show 2 * 0 + _ ≤ _; exact Nat.le_of_eq rfl) (hb hby at_179) (fun _ _ => ⟨rfl, e62, (by decide : 3 + 0 ≤ room_1.cells), (by decide : 35 + 0 ≤ room_1.slots)⟩)
              dsimp only [Pt.U, Pt.locs, Pt.cells, Pt.slots] at X64 l64 y64 z64 st64 hQ64
              subst l64 y64 z64
              obtain ⟨hh64, eh064⟩ : ∃ z, T64.heap = z := ⟨_, rfl⟩
              rw [eh064] at hQ64
              obtain ⟨f2_64, rfl, Nq64, Kq64, P64_0, P64_1, P64_2, P64_3, P64_4, P64_5⟩ := hQ64
              have N64 := Fr.app N62 Nq64
              refine own_tr st64 ?_
              have K65 : Keep h0 hh59 [] := (K60.trans Kq59 (allS (Or.inr gh_b1) (allS (Or.inr gh_ob_4) (allS (Or.inr gh_sb_4) all0))))
              have Zs66 : n0 ≤ hh64.size := Nat.le_trans Zs61 Kq64.1
              refine own_st (fun _ k => XS.iload X64.here hx rfl (hb hby at_182) rfl k) ?_
              refine own_st (fun _ k => XS.bipush X64.here hx rfl (hb hby at_184) k) ?_
              by_cases hc186 : (6 : Int32) < (Int32.ofNat c9)
              · have hgt6 : 6 < c9 := (own_lt9 6 c9 (by decide) hc9).mp hc186
                refine own_st (fun _ k => XS.icmpNo X64.here hx rfl (hb hby at_186) rfl (tlt hc186).2.2.2 k) ?_
                show own_Gl _ _ _ _ _ _ _ (T64.setTop (mkF m 189 #[.val (.int p1), .val (.int p2), .val (.int p3), .val (.int p4), .val (.long p5), .second, .val (.int (Int32.ofNat c9)), .val (.int g), .val (.long (own_base p5)), .second, .val (.ref b1), .unset, .unset, .unset, .unset, .unset, .unset, .unset, .unset, .unset, .unset, .unset, .unset, .unset, .unset] []))
                refine own_st (fun _ k => XS.aload X64.here hx rfl (hb hby at_189) rfl rfl k) ?_
                refine own_st (fun _ k => XS.iloadN X64.here hx rfl (hb hby at_191) rfl k) ?_
                refine own_st (fun _ k => XS.bipush X64.here hx rfl (hb hby at_192) k) ?_
                refine own_st (fun _ k => XS.iloadN X64.here hx rfl (hb hby at_194) rfl k) ?_
                show own_Gl _ _ _ _ _ _ _ (T64.setTop (mkF m 195 #[.val (.int p1), .val (.int p2), .val (.int p3), .val (.int p4), .val (.long p5), .second, .val (.int (Int32.ofNat c9)), .val (.int g), .val (.long (own_base p5)), .second, .val (.ref b1), .unset, .unset, .unset, .unset, .unset, .unset, .unset, .unset, .unset, .unset, .unset, .unset, .unset, .unset] [(.int p1), (.int 6), (.int p3), (.ref b1)]))
                refine own_st (fun _ k => XS.iload X64.here hx rfl (hb hby at_195) rfl k) ?_
                have f68 := (f63.keep Kq64)
                obtain ⟨_, _, ⟨T67, L67, k67, n67⟩, -, X67, ⟨Lc67, hQ67, l67, y67, z67⟩, st67⟩ := Jvm.LawKit.callS X64 hx (y := oM29) hown (mvT hZ (oW hw 17 rfl)) (mvT hZ (oW hw 18 rfl)) (mvT hZ (oW hw 19 rfl)) (mvT hZ (oW hw 20 rfl)) (by decide) (backOf (W := 1) (own_hashOf l Z a0 hw [] p3 (6 : Int32) p1 g hh64 n0 Zs66 ) hZ (oW hw 20 rfl) (oW hw 19 rfl) (by decide) (by decide)) (g := (mkF m 197 #[.val (.int p1), .val (.int p2), .val (.int p3), .val (.int p4), .val (.long p5), .second, .val (.int (Int32.ofNat c9)), .val (.int g), .val (.long (own_base p5)), .second, .val (.ref b1), .unset, .unset, .unset, .unset, .unset, .unset, .unset, .unset, .unset, .unset, .unset, .unset, .unset, .unset] [(.int g), (.int p1), (.int 6), (.int p3), (.ref b1)])) rfl (by rw [hml]; rfl) (argsL := [(.int p3), (.int 6), (.int p1), (.int g)]) (rest := [(.ref b1)]) (lenOf own_pd492378836 rfl) rfl (by show 2 * 0 + _ ≤ _; exact Nat.le_of_eq rfl) (hb hby at_197) (fun _ _ => ⟨rfl, eh064, (by decide : 3 + 0 ≤ room_1.cells), (by decide : 35 + 0 ≤ room_1.slots)⟩)
                dsimp only [Pt.U, Pt.locs, Pt.cells, Pt.slots] at X67 l67 y67 z67 st67 hQ67
                subst l67 y67 z67
                obtain ⟨hh67, eh067⟩ : ∃ z, T67.heap = z := ⟨_, rfl⟩
                rw [eh067] at hQ67
                obtain ⟨rfl, Nq67, eh67⟩ := hQ67
                have N67 := Fr.app N64 Nq67
                refine own_st st67 ?_
                have e67 : T67.heap = hh64 := eh067.trans eh67
                refine own_st (fun _ k => XS.lload X67.here hx rfl (hb hby at_200) rfl k) ?_
                refine own_st (X67.ldc2Long hx hown (mvT hZ (oW hw 92 rfl)) (g := (mkF m 202 #[.val (.int p1), .val (.int p2), .val (.int p3), .val (.int p4), .val (.long p5), .second, .val (.int (Int32.ofNat c9)), .val (.int g), .val (.long (own_base p5)), .second, .val (.ref b1), .unset, .unset, .unset, .unset, .unset, .unset, .unset, .unset, .unset, .unset, .unset, .unset, .unset, .unset] [(.long (own_base p5)), (.int (own_hq p3 (6 : Int32) p1 g)), (.ref b1)])) rfl (hb hby at_202)) ?_
                show own_Gl _ _ _ _ _ _ _ (T67.setTop (mkF m 205 #[.val (.int p1), .val (.int p2), .val (.int p3), .val (.int p4), .val (.long p5), .second, .val (.int (Int32.ofNat c9)), .val (.int g), .val (.long (own_base p5)), .second, .val (.ref b1), .unset, .unset, .unset, .unset, .unset, .unset, .unset, .unset, .unset, .unset, .unset, .unset, .unset, .unset] [(.long (7 : Int64)), (.long (own_base p5)), (.int (own_hq p3 (6 : Int32) p1 g)), (.ref b1)]))
                refine own_st (fun _ k => XS.ladd X67.here hx rfl (hb hby at_205) rfl k) ?_
                obtain ⟨cq69, kq69, q69a, q69b, q69c⟩ := isOf hZ e67 f68
                obtain ⟨_, _, ⟨T69, L69, k69, n69⟩, -, X69, ⟨Lc69, hQ69, l69, y69, z69⟩, st69⟩ := X67.virtualBack hx (y := oM5) (z := oM5) hown (mvT hZ (oW hw 21 rfl)) (mvT hZ (oW hw 22 rfl)) (notFace_of_selects (args := #[]) (mvT hZ (oW hw 24 rfl))) (mvT hZ (oW hw 24 rfl)) (mvT hZ (oW hw 23 rfl)) (by decide) (backOf (W := 0) (own_add l Z a0 hw [] b1 (own_hq p3 (6 : Int32) p1 g) ((own_base p5) + (7 : Int64)) ob_4 sb_4 ko_4 kh_4 (6 : Int32) (7 : Int32) f2_64 (own_ofs (own_base p5)) (own_hs p3 p1 g) 6 hh64 n0 Zs66 f68 P64_0 P64_1 P64_2 P64_3 P64_4 g_b1 P4_0 P4_2 P4_4 ne_b1_ob_4 ne_b1_sb_4 hof9 P64_5 (by decide) rfl rfl rfl rfl) hZ (oW hw 25 rfl) (oW hw 4 rfl) (by decide) (by decide)) q69a q69c (g := (mkF m 206 #[.val (.int p1), .val (.int p2), .val (.int p3), .val (.int p4), .val (.long p5), .second, .val (.int (Int32.ofNat c9)), .val (.int g), .val (.long (own_base p5)), .second, .val (.ref b1), .unset, .unset, .unset, .unset, .unset, .unset, .unset, .unset, .unset, .unset, .unset, .unset, .unset, .unset] [(.long ((own_base p5) + (7 : Int64))), (.int (own_hq p3 (6 : Int32) p1 g)), (.ref b1)])) rfl (by rw [hml]; rfl) (Steps.refl _) (argsL := [(.int (own_hq p3 (6 : Int32) p1 g)), (.long ((own_base p5) + (7 : Int64)))]) (rest := []) (lenOf own_pd945382854 rfl) rfl (by show 2 * 0 + _ ≤ _; exact Nat.le_of_eq rfl) (hb hby at_206) (fun _ _ => ⟨rfl, e67, (by decide : 3 + 0 ≤ room_1.cells), (by decide : 35 + 0 ≤ room_1.slots)⟩)
                dsimp only [Pt.U, Pt.locs, Pt.cells, Pt.slots] at X69 l69 y69 z69 st69 hQ69
                subst l69 y69 z69
                obtain ⟨hh69, eh069⟩ : ∃ z, T69.heap = z := ⟨_, rfl⟩
                rw [eh069] at hQ69
                obtain ⟨f2_69, rfl, Nq69, Kq69, P69_0, P69_1, P69_2, P69_3, P69_4, P69_5⟩ := hQ69
                have N69 := Fr.app N67 Nq69
                refine own_tr st69 ?_
                have K70 : Keep h0 hh64 [] := (K65.trans Kq64 (allS (Or.inr gh_b1) (allS (Or.inr gh_ob_4) (allS (Or.inr gh_sb_4) all0))))
                have Zs71 : n0 ≤ hh69.size := Nat.le_trans Zs66 Kq69.1
                refine own_st (fun _ k => XS.iload X69.here hx rfl (hb hby at_209) rfl k) ?_
                refine own_st (fun _ k => XS.bipush X69.here hx rfl (hb hby at_211) k) ?_
                show own_Gl _ _ _ _ _ _ _ (T69.setTop (mkF m 213 #[.val (.int p1), .val (.int p2), .val (.int p3), .val (.int p4), .val (.long p5), .second, .val (.int (Int32.ofNat c9)), .val (.int g), .val (.long (own_base p5)), .second, .val (.ref b1), .unset, .unset, .unset, .unset, .unset, .unset, .unset, .unset, .unset, .unset, .unset, .unset, .unset, .unset] [(.int 7), (.int (Int32.ofNat c9))]))
                by_cases hc213 : (7 : Int32) < (Int32.ofNat c9)
                · have hgt7 : 7 < c9 := (own_lt9 7 c9 (by decide) hc9).mp hc213
                  refine own_st (fun _ k => XS.icmpNo X69.here hx rfl (hb hby at_213) rfl (tlt hc213).2.2.2 k) ?_
                  refine own_st (fun _ k => XS.aload X69.here hx rfl (hb hby at_216) rfl rfl k) ?_
                  refine own_st (fun _ k => XS.iloadN X69.here hx rfl (hb hby at_218) rfl k) ?_
                  refine own_st (fun _ k => XS.bipush X69.here hx rfl (hb hby at_219) k) ?_
                  show own_Gl _ _ _ _ _ _ _ (T69.setTop (mkF m 221 #[.val (.int p1), .val (.int p2), .val (.int p3), .val (.int p4), .val (.long p5), .second, .val (.int (Int32.ofNat c9)), .val (.int g), .val (.long (own_base p5)), .second, .val (.ref b1), .unset, .unset, .unset, .unset, .unset, .unset, .unset, .unset, .unset, .unset, .unset, .unset, .unset, .unset] [(.int 7), (.int p3), (.ref b1)]))
                  refine own_st (fun _ k => XS.iloadN X69.here hx rfl (hb hby at_221) rfl k) ?_
                  refine own_st (fun _ k => XS.iload X69.here hx rfl (hb hby at_222) rfl k) ?_
                  have f73 := (f68.keep Kq69)
                  obtain ⟨_, _, ⟨T72, L72, k72, n72⟩, -, X72, ⟨Lc72, hQ72, l72, y72, z72⟩, st72⟩ := Jvm.LawKit.callS X69 hx (y := oM29) hown (mvT hZ (oW hw 17 rfl)) (mvT hZ (oW hw 18 rfl)) (mvT hZ (oW hw 19 rfl)) (mvT hZ (oW hw 20 rfl)) (by decide) (backOf (W := 1) (own_hashOf l Z a0 hw [] p3 (7 : Int32) p1 g hh69 n0 Zs71 ) hZ (oW hw 20 rfl) (oW hw 19 rfl) (by decide) (by decide)) (g := (mkF m 224 #[.val (.int p1), .val (.int p2), .val (.int p3), .val (.int p4), .val (.long p5), .second, .val (.int (Int32.ofNat c9)), .val (.int g), .val (.long (own_base p5)), .second, .val (.ref b1), .unset, .unset, .unset, .unset, .unset, .unset, .unset, .unset, .unset, .unset, .unset, .unset, .unset, .unset] [(.int g), (.int p1), (.int 7), (.int p3), (.ref b1)])) rfl (by rw [hml]; rfl) (argsL := [(.int p3), (.int 7), (.int p1), (.int g)]) (rest := [(.ref b1)]) (lenOf own_pd492378836 rfl) rfl (by show 2 * 0 + _ ≤ _; exact Nat.le_of_eq rfl) (hb hby at_224) (fun _ _ => ⟨rfl, eh069, (by decide : 3 + 0 ≤ room_1.cells), (by decide : 35 + 0 ≤ room_1.slots)⟩)
                  dsimp only [Pt.U, Pt.locs, Pt.cells, Pt.slots] at X72 l72 y72 z72 st72 hQ72
                  subst l72 y72 z72
                  obtain ⟨hh72, eh072⟩ : ∃ z, T72.heap = z := ⟨_, rfl⟩
                  rw [eh072] at hQ72
                  obtain ⟨rfl, Nq72, eh72⟩ := hQ72
                  have N72 := Fr.app N69 Nq72
                  refine own_st st72 ?_
                  have e72 : T72.heap = hh69 := eh072.trans eh72
                  refine own_st (fun _ k => XS.lload X72.here hx rfl (hb hby at_227) rfl k) ?_
                  show own_Gl _ _ _ _ _ _ _ (T72.setTop (mkF m 229 #[.val (.int p1), .val (.int p2), .val (.int p3), .val (.int p4), .val (.long p5), .second, .val (.int (Int32.ofNat c9)), .val (.int g), .val (.long (own_base p5)), .second, .val (.ref b1), .unset, .unset, .unset, .unset, .unset, .unset, .unset, .unset, .unset, .unset, .unset, .unset, .unset, .unset] [(.long (own_base p5)), (.int (own_hq p3 (7 : Int32) p1 g)), (.ref b1)]))
                  refine own_st (X72.ldc2Long hx hown (mvT hZ (oW hw 93 rfl)) (g := (mkF m 229 #[.val (.int p1), .val (.int p2), .val (.int p3), .val (.int p4), .val (.long p5), .second, .val (.int (Int32.ofNat c9)), .val (.int g), .val (.long (own_base p5)), .second, .val (.ref b1), .unset, .unset, .unset, .unset, .unset, .unset, .unset, .unset, .unset, .unset, .unset, .unset, .unset, .unset] [(.long (own_base p5)), (.int (own_hq p3 (7 : Int32) p1 g)), (.ref b1)])) rfl (hb hby at_229)) ?_
                  refine own_st (fun _ k => XS.ladd X72.here hx rfl (hb hby at_232) rfl k) ?_
                  obtain ⟨cq74, kq74, q74a, q74b, q74c⟩ := isOf hZ e72 f73
                  obtain ⟨_, _, ⟨T74, L74, k74, n74⟩, -, X74, ⟨Lc74, hQ74, l74, y74, z74⟩, st74⟩ := X72.virtualBack hx (y := oM5) (z := oM5) hown (mvT hZ (oW hw 21 rfl)) (mvT hZ (oW hw 22 rfl)) (notFace_of_selects (args := #[]) (mvT hZ (oW hw 24 rfl))) (mvT hZ (oW hw 24 rfl)) (mvT hZ (oW hw 23 rfl)) (by decide) (backOf (W := 0) (own_add l Z a0 hw [] b1 (own_hq p3 (7 : Int32) p1 g) ((own_base p5) + (8 : Int64)) ob_4 sb_4 ko_4 kh_4 (7 : Int32) (8 : Int32) f2_69 (own_ofs (own_base p5)) (own_hs p3 p1 g) 7 hh69 n0 Zs71 f73 P69_0 P69_1 P69_2 P69_3 P69_4 g_b1 P4_0 P4_2 P4_4 ne_b1_ob_4 ne_b1_sb_4 hof9 P69_5 (by decide) rfl rfl rfl rfl) hZ (oW hw 25 rfl) (oW hw 4 rfl) (by decide) (by decide)) q74a q74c (g := (mkF m 233 #[.val (.int p1), .val (.int p2), .val (.int p3), .val (.int p4), .val (.long p5), .second, .val (.int (Int32.ofNat c9)), .val (.int g), .val (.long (own_base p5)), .second, .val (.ref b1), .unset, .unset, .unset, .unset, .unset, .unset, .unset, .unset, .unset, .unset, .unset, .unset, .unset, .unset] [(.long ((own_base p5) + (8 : Int64))), (.int (own_hq p3 (7 : Int32) p1 g)), (.ref b1)])) rfl (by rw [hml]; rfl) (Steps.refl _) (argsL := [(.int (own_hq p3 (7 : Int32) p1 g)), (.long ((own_base p5) + (8 : Int64)))]) (rest := []) (lenOf own_pd945382854 rfl) rfl (by show 2 * 0 + _ ≤ _; exact Nat.le_of_eq rfl) (hb hby at_233) (fun _ _ => ⟨rfl, e72, (by decide : 3 + 0 ≤ room_1.cells), (by decide : 35 + 0 ≤ room_1.slots)⟩)
                  dsimp only [Pt.U, Pt.locs, Pt.cells, Pt.slots] at X74 l74 y74 z74 st74 hQ74
                  subst l74 y74 z74
                  obtain ⟨hh74, eh074⟩ : ∃ z, T74.heap = z := ⟨_, rfl⟩
                  rw [eh074] at hQ74
                  obtain ⟨f2_74, rfl, Nq74, Kq74, P74_0, P74_1, P74_2, P74_3, P74_4, P74_5⟩ := hQ74
                  have N74 := Fr.app N72 Nq74
                  refine own_tr st74 ?_
                  have K75 : Keep h0 hh69 [] := (K70.trans Kq69 (allS (Or.inr gh_b1) (allS (Or.inr gh_ob_4) (allS (Or.inr gh_sb_4) all0))))
                  have Zs76 : n0 ≤ hh74.size := Nat.le_trans Zs71 Kq74.1
                  refine own_st (fun _ k => XS.iload X74.here hx rfl (hb hby at_236) rfl k) ?_
                  show own_Gl _ _ _ _ _ _ _ (T74.setTop (mkF m 238 #[.val (.int p1), .val (.int p2), .val (.int p3), .val (.int p4), .val (.long p5), .second, .val (.int (Int32.ofNat c9)), .val (.int g), .val (.long (own_base p5)), .second, .val (.ref b1), .unset, .unset, .unset, .unset, .unset, .unset, .unset, .unset, .unset, .unset, .unset, .unset, .unset, .unset] [(.int (Int32.ofNat c9))]))
                  refine own_st (fun _ k => XS.bipush X74.here hx rfl (hb hby at_238) k) ?_
                  by_cases hc240 : (8 : Int32) < (Int32.ofNat c9)
                  · have hgt8 : 8 < c9 := (own_lt9 8 c9 (by decide) hc9).mp hc240
                    refine own_st (fun _ k => XS.icmpNo X74.here hx rfl (hb hby at_240) rfl (tlt hc240).2.2.2 k) ?_
                    refine own_st (fun _ k => XS.aload X74.here hx rfl (hb hby at_243) rfl rfl k) ?_
                    refine own_st (fun _ k => XS.iloadN X74.here hx rfl (hb hby at_245) rfl k) ?_
                    show own_Gl _ _ _ _ _ _ _ (T74.setTop (mkF m 246 #[.val (.int p1), .val (.int p2), .val (.int p3), .val (.int p4), .val (.long p5), .second, .val (.int (Int32.ofNat c9)), .val (.int g), .val (.long (own_base p5)), .second, .val (.ref b1), .unset, .unset, .unset, .unset, .unset, .unset, .unset, .unset, .unset, .unset, .unset, .unset, .unset, .unset] [(.int p3), (.ref b1)]))
                    refine own_st (fun _ k => XS.bipush X74.here hx rfl (hb hby at_246) k) ?_
                    refine own_st (fun _ k => XS.iloadN X74.here hx rfl (hb hby at_248) rfl k) ?_
                    refine own_st (fun _ k => XS.iload X74.here hx rfl (hb hby at_249) rfl k) ?_
                    have f78 := (f73.keep Kq74)
                    obtain ⟨_, _, ⟨T77, L77, k77, n77⟩, -, X77, ⟨Lc77, hQ77, l77, y77, z77⟩, st77⟩ := Jvm.LawKit.callS X74 hx (y := oM29) hown (mvT hZ (oW hw 17 rfl)) (mvT hZ (oW hw 18 rfl)) (mvT hZ (oW hw 19 rfl)) (mvT hZ (oW hw 20 rfl)) (by decide) (backOf (W := 1) (own_hashOf l Z a0 hw [] p3 (8 : Int32) p1 g hh74 n0 Zs76 ) hZ (oW hw 20 rfl) (oW hw 19 rfl) (by decide) (by decide)) (g := (mkF m 251 #[.val (.int p1), .val (.int p2), .val (.int p3), .val (.int p4), .val (.long p5), .second, .val (.int (Int32.ofNat c9)), .val (.int g), .val (.long (own_base p5)), .second, .val (.ref b1), .unset, .unset, .unset, .unset, .unset, .unset, .unset, .unset, .unset, .unset, .unset, .unset, .unset, .unset] [(.int g), (.int p1), (.int 8), (.int p3), (.ref b1)])) rfl (by rw [hml]; rfl) (argsL := [(.int p3), (.int 8), (.int p1), (.int g)]) (rest := [(.ref b1)]) (lenOf own_pd492378836 rfl) rfl (by show 2 * 0 + _ ≤ _; exact Nat.le_of_eq rfl) (hb hby at_251) (fun _ _ => ⟨rfl, eh074, (by decide : 3 + 0 ≤ room_1.cells), (by decide : 35 + 0 ≤ room_1.slots)⟩)
                    dsimp only [Pt.U, Pt.locs, Pt.cells, Pt.slots] at X77 l77 y77 z77 st77 hQ77
                    subst l77 y77 z77
                    obtain ⟨hh77, eh077⟩ : ∃ z, T77.heap = z := ⟨_, rfl⟩
                    rw [eh077] at hQ77
                    obtain ⟨rfl, Nq77, eh77⟩ := hQ77
                    have N77 := Fr.app N74 Nq77
                    refine own_st st77 ?_
                    have e77 : T77.heap = hh74 := eh077.trans eh77
                    show own_Gl _ _ _ _ _ _ _ (T77.setTop (mkF m 254 #[.val (.int p1), .val (.int p2), .val (.int p3), .val (.int p4), .val (.long p5), .second, .val (.int (Int32.ofNat c9)), .val (.int g), .val (.long (own_base p5)), .second, .val (.ref b1), .unset, .unset, .unset, .unset, .unset, .unset, .unset, .unset, .unset, .unset, .unset, .unset, .unset, .unset] [(.int (own_hq p3 (8 : Int32) p1 g)), (.ref b1)]))
                    refine own_st (fun _ k => XS.lload X77.here hx rfl (hb hby at_254) rfl k) ?_
                    refine own_st (X77.ldc2Long hx hown (mvT hZ (oW hw 174 rfl)) (g := (mkF m 256 #[.val (.int p1), .val (.int p2), .val (.int p3), .val (.int p4), .val (.long p5), .second, .val (.int (Int32.ofNat c9)), .val (.int g), .val (.long (own_base p5)), .second, .val (.ref b1), .unset, .unset, .unset, .unset, .unset, .unset, .unset, .unset, .unset, .unset, .unset, .unset, .unset, .unset] [(.long (own_base p5)), (.int (own_hq p3 (8 : Int32) p1 g)), (.ref b1)])) rfl (hb hby at_256)) ?_
                    refine own_st (fun _ k => XS.ladd X77.here hx rfl (hb hby at_259) rfl k) ?_
                    obtain ⟨cq79, kq79, q79a, q79b, q79c⟩ := isOf hZ e77 f78
                    obtain ⟨_, _, ⟨T79, L79, k79, n79⟩, -, X79, ⟨Lc79, hQ79, l79, y79, z79⟩, st79⟩ := X77.virtualBack hx (y := oM5) (z := oM5) hown (mvT hZ (oW hw 21 rfl)) (mvT hZ (oW hw 22 rfl)) (notFace_of_selects (args := #[]) (mvT hZ (oW hw 24 rfl))) (mvT hZ (oW hw 24 rfl)) (mvT hZ (oW hw 23 rfl)) (by decide) (backOf (W := 0) (own_add9 l Z a0 hw [] b1 (own_hq p3 (8 : Int32) p1 g) ((own_base p5) + (9 : Int64)) ob_4 sb_4 ko_4 kh_4 f2_74 (own_ofs (own_base p5)) (own_hs p3 p1 g) hh74 n0 Zs76 f78 P74_0 P74_1 P74_2 P74_3 P74_4 g_b1 ne_b1_ob_4 ne_b1_sb_4 hof9 rfl P74_5 rfl rfl) hZ (oW hw 25 rfl) (oW hw 4 rfl) (by decide) (by decide)) q79a q79c (g := (mkF m 260 #[.val (.int p1), .val (.int p2), .val (.int p3), .val (.int p4), .val (.long p5), .second, .val (.int (Int32.ofNat c9)), .val (.int g), .val (.long (own_base p5)), .second, .val (.ref b1), .unset, .unset, .unset, .unset, .unset, .unset, .unset, .unset, .unset, .unset, .unset, .unset, .unset, .unset] [(.long ((own_base p5) + (9 : Int64))), (.int (own_hq p3 (8 : Int32) p1 g)), (.ref b1)])) rfl (by rw [hml]; rfl) (Steps.refl _) (argsL := [(.int (own_hq p3 (8 : Int32) p1 g)), (.long ((own_base p5) + (9 : Int64)))]) (rest := []) (lenOf own_pd945382854 rfl) rfl (by show 2 * 0 + _ ≤ _; exact Nat.le_of_eq rfl) (hb hby at_260) (fun _ _ => ⟨rfl, e77, (by decide : 3 + 2 ≤ room_1.cells), (by decide : 35 + 64 ≤ room_1.slots)⟩)
                    dsimp only [Pt.U, Pt.locs, Pt.cells, Pt.slots] at X79 l79 y79 z79 st79 hQ79
                    subst l79 y79 z79
                    obtain ⟨hh79, eh079⟩ : ∃ z, T79.heap = z := ⟨_, rfl⟩
                    rw [eh079] at hQ79
                    obtain ⟨ob2_79, sb2_79, ko2_79, kh2_79, f2_79, rfl, Nq79, Kq79, P79_0, P79_1, P79_2, P79_3, P79_4, P79_5, P79_6, P79_7, P79_8, P79_9, P79_10⟩ := hQ79
                    have N79 := Fr.app N77 Nq79
                    refine own_tr st79 ?_
                    have K80 : Keep h0 hh74 [] := (K75.trans Kq74 (allS (Or.inr gh_b1) (allS (Or.inr gh_ob_4) (allS (Or.inr gh_sb_4) all0))))
                    have Zs81 : n0 ≤ hh79.size := Nat.le_trans Zs76 Kq79.1
                    have gh_ob2_79 : h0.size ≤ ob2_79 := Nat.le_trans K80.1 P79_1
                    have ne_b1_ob2_79 : b1 ≠ ob2_79 := Nat.ne_of_lt (Nat.lt_of_lt_of_le f78.lt P79_1)
                    have ne_ob_4_ob2_79 : ob_4 ≠ ob2_79 := Nat.ne_of_lt (Nat.lt_of_lt_of_le P74_3.lt P79_1)
                    have ne_sb_4_ob2_79 : sb_4 ≠ ob2_79 := Nat.ne_of_lt (Nat.lt_of_lt_of_le P74_4.lt P79_1)
                    have gh_sb2_79 : h0.size ≤ sb2_79 := Nat.le_trans K80.1 P79_3
                    have ne_b1_sb2_79 : b1 ≠ sb2_79 := Nat.ne_of_lt (Nat.lt_of_lt_of_le f78.lt P79_3)
                    have ne_ob_4_sb2_79 : ob_4 ≠ sb2_79 := Nat.ne_of_lt (Nat.lt_of_lt_of_le P74_3.lt P79_3)
                    have ne_sb_4_sb2_79 : sb_4 ≠ sb2_79 := Nat.ne_of_lt (Nat.lt_of_lt_of_le P74_4.lt P79_3)
                    show own_Gl _ _ _ _ _ _ _ (T79.setTop (mkF m 263 #[.val (.int p1), .val (.int p2), .val (.int p3), .val (.int p4), .val (.long p5), .second, .val (.int (Int32.ofNat c9)), .val (.int g), .val (.long (own_base p5)), .second, .val (.ref b1), .unset, .unset, .unset, .unset, .unset, .unset, .unset, .unset, .unset, .unset, .unset, .unset, .unset, .unset] []))
                    have hce : 9 = c9 := by omega
                    have K82 : Keep h0 hh79 [] := (K80.trans Kq79 (allS (Or.inr gh_b1) all0))
                    have f83 := (f78.keep Kq79)
                    have f84 := (((((((((((Old0.ext E1).keep Kq4 (allS g_b1 all0)).keep Kq39 (allS g_b1 (allS P4_0 (allS P4_2 all0)))).keep Kq44 (allS g_b1 (allS P4_0 (allS P4_2 all0)))).keep Kq49 (allS g_b1 (allS P4_0 (allS P4_2 all0)))).keep Kq54 (allS g_b1 (allS P4_0 (allS P4_2 all0)))).keep Kq59 (allS g_b1 (allS P4_0 (allS P4_2 all0)))).keep Kq64 (allS g_b1 (allS P4_0 (allS P4_2 all0)))).keep Kq69 (allS g_b1 (allS P4_0 (allS P4_2 all0)))).keep Kq74 (allS g_b1 (allS P4_0 (allS P4_2 all0)))).keep Kq79 (allS g_b1 all0))
                    show own_Gl _ _ _ _ _ _ _ (T79.setTop (mkF m 263 #[.val (.int p1), .val (.int p2), .val (.int p3), .val (.int p4), .val (.long p5), .second, .val (.int (Int32.ofNat c9)), .val (.int g), .val (.long (own_base p5)), .second, .val (.ref b1), .unset, .unset, .unset, .unset, .unset, .unset, .unset, .unset, .unset, .unset, .unset, .unset, .unset, .unset] []))
                    exact J263_9 T79 _ N79 X79 _ eh079 (b1) ((32 : Int32)) (ob2_79) (sb2_79) (ko2_79) (kh2_79) (f2_79) Zs81 K82 f83 P79_5 P79_6 P79_8 P79_9 f84 (Or.inr rfl) (hce ▸ P79_10)
                  · have hgt8 : ¬ 8 < c9 := fun q => hc240 ((own_lt9 8 c9 (by decide) hc9).mpr q)
                    refine own_st (fun _ k => XS.icmpYes X74.here hx rfl (pc0 := 240) (pc' := 263) rfl (hb hby at_240) rfl (flt hc240).2.2.2 (by decide) (by decide) k) ?_
                    have hce : 8 = c9 := by omega
                    have X85 := X74.more (by decide : 3 ≤ 5) (by decide : 35 ≤ 99)
                    have K86 : Keep h0 hh74 [] := (K75.trans Kq74 (allS (Or.inr gh_b1) (allS (Or.inr gh_ob_4) (allS (Or.inr gh_sb_4) all0))))
                    have f87 := (f73.keep Kq74)
                    have f88 := ((((((((((Old0.ext E1).keep Kq4 (allS g_b1 all0)).keep Kq39 (allS g_b1 (allS P4_0 (allS P4_2 all0)))).keep Kq44 (allS g_b1 (allS P4_0 (allS P4_2 all0)))).keep Kq49 (allS g_b1 (allS P4_0 (allS P4_2 all0)))).keep Kq54 (allS g_b1 (allS P4_0 (allS P4_2 all0)))).keep Kq59 (allS g_b1 (allS P4_0 (allS P4_2 all0)))).keep Kq64 (allS g_b1 (allS P4_0 (allS P4_2 all0)))).keep Kq69 (allS g_b1 (allS P4_0 (allS P4_2 all0)))).keep Kq74 (allS g_b1 (allS P4_0 (allS P4_2 all0))))
                    show own_Gl _ _ _ _ _ _ _ (T74.setTop (mkF m 263 #[.val (.int p1), .val (.int p2), .val (.int p3), .val (.int p4), .val (.long p5), .second, .val (.int (Int32.ofNat c9)), .val (.int g), .val (.long (own_base p5)), .second, .val (.ref b1), .unset, .unset, .unset, .unset, .unset, .unset, .unset, .unset, .unset, .unset, .unset, .unset, .unset, .unset] []))
                    exact J263_9 T74 _ N74 X85 _ eh074 (b1) ((16 : Int32)) (ob_4) (sb_4) (ko_4) (kh_4) (f2_74) Zs76 K86 f87 P74_0 P74_1 P74_3 P74_4 f88 (Or.inl rfl) (hce ▸ P74_5)
                · have hgt7 : ¬ 7 < c9 := fun q => hc213 ((own_lt9 7 c9 (by decide) hc9).mpr q)
                  refine own_st (fun _ k => XS.icmpYes X69.here hx rfl (pc0 := 213) (pc' := 236) rfl (hb hby at_213) rfl (flt hc213).2.2.2 (by decide) (by decide) k) ?_
                  refine own_st (fun _ k => XS.iload X69.here hx rfl (hb hby at_236) rfl k) ?_
                  refine own_st (fun _ k => XS.bipush X69.here hx rfl (hb hby at_238) k) ?_
                  have hd89 : ¬ ((8 : Int32) < (Int32.ofNat c9)) := fun q => by have := (own_lt9 8 c9 (by decide) hc9).mp q; omega
                  refine own_st (fun _ k => XS.icmpYes X69.here hx rfl (pc0 := 240) (pc' := 263) rfl (hb hby at_240) rfl (flt hd89).2.2.2 (by decide) (by decide) k) ?_
                  show own_Gl _ _ _ _ _ _ _ (T69.setTop (mkF m 263 #[.val (.int p1), .val (.int p2), .val (.int p3), .val (.int p4), .val (.long p5), .second, .val (.int (Int32.ofNat c9)), .val (.int g), .val (.long (own_base p5)), .second, .val (.ref b1), .unset, .unset, .unset, .unset, .unset, .unset, .unset, .unset, .unset, .unset, .unset, .unset, .unset, .unset] []))
                  have hce : 7 = c9 := by omega
                  have X90 := X69.more (by decide : 3 ≤ 5) (by decide : 35 ≤ 99)
                  have K91 : Keep h0 hh69 [] := (K70.trans Kq69 (allS (Or.inr gh_b1) (allS (Or.inr gh_ob_4) (allS (Or.inr gh_sb_4) all0))))
                  have f92 := (f68.keep Kq69)
                  have f93 := (((((((((Old0.ext E1).keep Kq4 (allS g_b1 all0)).keep Kq39 (allS g_b1 (allS P4_0 (allS P4_2 all0)))).keep Kq44 (allS g_b1 (allS P4_0 (allS P4_2 all0)))).keep Kq49 (allS g_b1 (allS P4_0 (allS P4_2 all0)))).keep Kq54 (allS g_b1 (allS P4_0 (allS P4_2 all0)))).keep Kq59 (allS g_b1 (allS P4_0 (allS P4_2 all0)))).keep Kq64 (allS g_b1 (allS P4_0 (allS P4_2 all0)))).keep Kq69 (allS g_b1 (allS P4_0 (allS P4_2 all0))))
                  show own_Gl _ _ _ _ _ _ _ (T69.setTop (mkF m 263 #[.val (.int p1), .val (.int p2), .val (.int p3), .val (.int p4), .val (.long p5), .second, .val (.int (Int32.ofNat c9)), .val (.int g), .val (.long (own_base p5)), .second, .val (.ref b1), .unset, .unset, .unset, .unset, .unset, .unset, .unset, .unset, .unset, .unset, .unset, .unset, .unset, .unset] []))
                  exact J263_9 T69 _ N69 X90 _ eh069 (b1) ((16 : Int32)) (ob_4) (sb_4) (ko_4) (kh_4) (f2_69) Zs71 K91 f92 P69_0 P69_1 P69_3 P69_4 f93 (Or.inl rfl) (hce ▸ P69_5)
              · have hgt6 : ¬ 6 < c9 := fun q => hc186 ((own_lt9 6 c9 (by decide) hc9).mpr q)
                refine own_st (fun _ k => XS.icmpYes X64.here hx rfl (pc0 := 186) (pc' := 209) rfl (hb hby at_186) rfl (flt hc186).2.2.2 (by decide) (by decide) k) ?_
                show own_Gl _ _ _ _ _ _ _ (T64.setTop (mkF m 209 #[.val (.int p1), .val (.int p2), .val (.int p3), .val (.int p4), .val (.long p5), .second, .val (.int (Int32.ofNat c9)), .val (.int g), .val (.long (own_base p5)), .second, .val (.ref b1), .unset, .unset, .unset, .unset, .unset, .unset, .unset, .unset, .unset, .unset, .unset, .unset, .unset, .unset] []))
                refine own_st (fun _ k => XS.iload X64.here hx rfl (hb hby at_209) rfl k) ?_
                refine own_st (fun _ k => XS.bipush X64.here hx rfl (hb hby at_211) k) ?_
                have hd94 : ¬ ((7 : Int32) < (Int32.ofNat c9)) := fun q => by have := (own_lt9 7 c9 (by decide) hc9).mp q; omega
                refine own_st (fun _ k => XS.icmpYes X64.here hx rfl (pc0 := 213) (pc' := 236) rfl (hb hby at_213) rfl (flt hd94).2.2.2 (by decide) (by decide) k) ?_
                refine own_st (fun _ k => XS.iload X64.here hx rfl (hb hby at_236) rfl k) ?_
                show own_Gl _ _ _ _ _ _ _ (T64.setTop (mkF m 238 #[.val (.int p1), .val (.int p2), .val (.int p3), .val (.int p4), .val (.long p5), .second, .val (.int (Int32.ofNat c9)), .val (.int g), .val (.long (own_base p5)), .second, .val (.ref b1), .unset, .unset, .unset, .unset, .unset, .unset, .unset, .unset, .unset, .unset, .unset, .unset, .unset, .unset] [(.int (Int32.ofNat c9))]))
                refine own_st (fun _ k => XS.bipush X64.here hx rfl (hb hby at_238) k) ?_
                have hd95 : ¬ ((8 : Int32) < (Int32.ofNat c9)) := fun q => by have := (own_lt9 8 c9 (by decide) hc9).mp q; omega
                refine own_st (fun _ k => XS.icmpYes X64.here hx rfl (pc0 := 240) (pc' := 263) rfl (hb hby at_240) rfl (flt hd95).2.2.2 (by decide) (by decide) k) ?_
                have hce : 6 = c9 := by omega
                have X96 := X64.more (by decide : 3 ≤ 5) (by decide : 35 ≤ 99)
                have K97 : Keep h0 hh64 [] := (K65.trans Kq64 (allS (Or.inr gh_b1) (allS (Or.inr gh_ob_4) (allS (Or.inr gh_sb_4) all0))))
                have f98 := (f63.keep Kq64)
                have f99 := ((((((((Old0.ext E1).keep Kq4 (allS g_b1 all0)).keep Kq39 (allS g_b1 (allS P4_0 (allS P4_2 all0)))).keep Kq44 (allS g_b1 (allS P4_0 (allS P4_2 all0)))).keep Kq49 (allS g_b1 (allS P4_0 (allS P4_2 all0)))).keep Kq54 (allS g_b1 (allS P4_0 (allS P4_2 all0)))).keep Kq59 (allS g_b1 (allS P4_0 (allS P4_2 all0)))).keep Kq64 (allS g_b1 (allS P4_0 (allS P4_2 all0))))
                show own_Gl _ _ _ _ _ _ _ (T64.setTop (mkF m 263 #[.val (.int p1), .val (.int p2), .val (.int p3), .val (.int p4), .val (.long p5), .second, .val (.int (Int32.ofNat c9)), .val (.int g), .val (.long (own_base p5)), .second, .val (.ref b1), .unset, .unset, .unset, .unset, .unset, .unset, .unset, .unset, .unset, .unset, .unset, .unset, .unset, .unset] []))
                exact J263_9 T64 _ N64 X96 _ eh064 (b1) ((16 : Int32)) (ob_4) (sb_4) (ko_4) (kh_4) (f2_64) Zs66 K97 f98 P64_0 P64_1 P64_3 P64_4 f99 (Or.inl rfl) (hce ▸ P64_5)
            · have hgt5 : ¬ 5 < c9 := fun q => hc160 ((own_lt9 5 c9 (by decide) hc9).mpr q)
              refine own_st (fun _ k => XS.icmpYes X59.here hx rfl (pc0 := 160) (pc' := 182) rfl (hb hby at_160) rfl (flt hc160).2.2.2 (by decide) (by decide) k) ?_
              refine own_st (fun _ k => XS.iload X59.here hx rfl (hb hby at_182) rfl k) ?_
              show own_Gl _ _ _ _ _ _ _ (T59.setTop (mkF m 184 #[.val (.int p1), .val (.int p2), .val (.int p3), .val (.int p4), .val (.long p5), .second, .val (.int (Int32.ofNat c9)), .val (.int g), .val (.long (own_base p5)), .second, .val (.ref b1), .unset, .unset, .unset, .unset, .unset, .unset, .unset, .unset, .unset, .unset, .unset, .unset, .unset, .unset] [(.int (Int32.ofNat c9))]))
              refine own_st (fun _ k => XS.bipush X59.here hx rfl (hb hby at_184) k) ?_
              have hd100 : ¬ ((6 : Int32) < (Int32.ofNat c9)) := fun q => by have := (own_lt9 6 c9 (by decide) hc9).mp q; omega
              refine own_st (fun _ k => XS.icmpYes X59.here hx rfl (pc0 := 186) (pc' := 209) rfl (hb hby at_186) rfl (flt hd100).2.2.2 (by decide) (by decide) k) ?_
              refine own_st (fun _ k => XS.iload X59.here hx rfl (hb hby at_209) rfl k) ?_
              refine own_st (fun _ k => XS.bipush X59.here hx rfl (hb hby at_211) k) ?_
              show own_Gl _ _ _ _ _ _ _ (T59.setTop (mkF m 213 #[.val (.int p1), .val (.int p2), .val (.int p3), .val (.int p4), .val (.long p5), .second, .val (.int (Int32.ofNat c9)), .val (.int g), .val (.long (own_base p5)), .second, .val (.ref b1), .unset, .unset, .unset, .unset, .unset, .unset, .unset, .unset, .unset, .unset, .unset, .unset, .unset, .unset] [(.int 7), (.int (Int32.ofNat c9))]))
              have hd101 : ¬ ((7 : Int32) < (Int32.ofNat c9)) := fun q => by have := (own_lt9 7 c9 (by decide) hc9).mp q; omega
              refine own_st (fun _ k => XS.icmpYes X59.here hx rfl (pc0 := 213) (pc' := 236) rfl (hb hby at_213) rfl (flt hd101).2.2.2 (by decide) (by decide) k) ?_
              refine own_st (fun _ k => XS.iload X59.here hx rfl (hb hby at_236) rfl k) ?_
              refine own_st (fun _ k => XS.bipush X59.here hx rfl (hb hby at_238) k) ?_
              have hd102 : ¬ ((8 : Int32) < (Int32.ofNat c9)) := fun q => by have := (own_lt9 8 c9 (by decide) hc9).mp q; omega
              refine own_st (fun _ k => XS.icmpYes X59.here hx rfl (pc0 := 240) (pc' := 263) rfl (hb hby at_240) rfl (flt hd102).2.2.2 (by decide) (by decide) k) ?_
              show own_Gl _ _ _ _ _ _ _ (T59.setTop (mkF m 263 #[.val (.int p1), .val (.int p2), .val (.int p3), .val (.int p4), .val (.long p5), .second, .val (.int (Int32.ofNat c9)), .val (.int g), .val (.long (own_base p5)), .second, .val (.ref b1), .unset, .unset, .unset, .unset, .unset, .unset, .unset, .unset, .unset, .unset, .unset, .unset, .unset, .unset] []))
              have hce : 5 = c9 := by omega
              have X103 := X59.more (by decide : 3 ≤ 5) (by decide : 35 ≤ 99)
              have K104 : Keep h0 hh59 [] := (K60.trans Kq59 (allS (Or.inr gh_b1) (allS (Or.inr gh_ob_4) (allS (Or.inr gh_sb_4) all0))))
              have f105 := (f58.keep Kq59)
              have f106 := (((((((Old0.ext E1).keep Kq4 (allS g_b1 all0)).keep Kq39 (allS g_b1 (allS P4_0 (allS P4_2 all0)))).keep Kq44 (allS g_b1 (allS P4_0 (allS P4_2 all0)))).keep Kq49 (allS g_b1 (allS P4_0 (allS P4_2 all0)))).keep Kq54 (allS g_b1 (allS P4_0 (allS P4_2 all0)))).keep Kq59 (allS g_b1 (allS P4_0 (allS P4_2 all0))))
              show own_Gl _ _ _ _ _ _ _ (T59.setTop (mkF m 263 #[.val (.int p1), .val (.int p2), .val (.int p3), .val (.int p4), .val (.long p5), .second, .val (.int (Int32.ofNat c9)), .val (.int g), .val (.long (own_base p5)), .second, .val (.ref b1), .unset, .unset, .unset, .unset, .unset, .unset, .unset, .unset, .unset, .unset, .unset, .unset, .unset, .unset] []))
              exact J263_9 T59 _ N59 X103 _ eh059 (b1) ((16 : Int32)) (ob_4) (sb_4) (ko_4) (kh_4) (f2_59) Zs61 K104 f105 P59_0 P59_1 P59_3 P59_4 f106 (Or.inl rfl) (hce ▸ P59_5)
          · have hgt4 : ¬ 4 < c9 := fun q => hc135 ((own_lt9 4 c9 (by decide) hc9).mpr q)
            refine own_st (fun _ k => XS.icmpYes X54.here hx rfl (pc0 := 135) (pc' := 157) rfl (hb hby at_135) rfl (flt hc135).2.2.2 (by decide) (by decide) k) ?_
            refine own_st (fun _ k => XS.iload X54.here hx rfl (hb hby at_157) rfl k) ?_
            refine own_st (fun _ k => XS.iconst X54.here hx rfl (hb hby at_159) k) ?_
            show own_Gl _ _ _ _ _ _ _ (T54.setTop (mkF m 160 #[.val (.int p1), .val (.int p2), .val (.int p3), .val (.int p4), .val (.long p5), .second, .val (.int (Int32.ofNat c9)), .val (.int g), .val (.long (own_base p5)), .second, .val (.ref b1), .unset, .unset, .unset, .unset, .unset, .unset, .unset, .unset, .unset, .unset, .unset, .unset, .unset, .unset] [(.int 5), (.int (Int32.ofNat c9))]))
            have hd107 : ¬ ((5 : Int32) < (Int32.ofNat c9)) := fun q => by have := (own_lt9 5 c9 (by decide) hc9).mp q; omega
            refine own_st (fun _ k => XS.icmpYes X54.here hx rfl (pc0 := 160) (pc' := 182) rfl (hb hby at_160) rfl (flt hd107).2.2.2 (by decide) (by decide) k) ?_
            refine own_st (fun _ k => XS.iload X54.here hx rfl (hb hby at_182) rfl k) ?_
            refine own_st (fun _ k => XS.bipush X54.here hx rfl (hb hby at_184) k) ?_
            have hd108 : ¬ ((6 : Int32) < (Int32.ofNat c9)) := fun q => by have := (own_lt9 6 c9 (by decide) hc9).mp q; omega
            refine own_st (fun _ k => XS.icmpYes X54.here hx rfl (pc0 := 186) (pc' := 209) rfl (hb hby at_186) rfl (flt hd108).2.2.2 (by decide) (by decide) k) ?_
            show own_Gl _ _ _ _ _ _ _ (T54.setTop (mkF m 209 #[.val (.int p1), .val (.int p2), .val (.int p3), .val (.int p4), .val (.long p5), .second, .val (.int (Int32.ofNat c9)), .val (.int g), .val (.long (own_base p5)), .second, .val (.ref b1), .unset, .unset, .unset, .unset, .unset, .unset, .unset, .unset, .unset, .unset, .unset, .unset, .unset, .unset] []))
            refine own_st (fun _ k => XS.iload X54.here hx rfl (hb hby at_209) rfl k) ?_
            refine own_st (fun _ k => XS.bipush X54.here hx rfl (hb hby at_211) k) ?_
            have hd109 : ¬ ((7 : Int32) < (Int32.ofNat c9)) := fun q => by have := (own_lt9 7 c9 (by decide) hc9).mp q; omega
            refine own_st (fun _ k => XS.icmpYes X54.here hx rfl (pc0 := 213) (pc' := 236) rfl (hb hby at_213) rfl (flt hd109).2.2.2 (by decide) (by decide) k) ?_
            refine own_st (fun _ k => XS.iload X54.here hx rfl (hb hby at_236) rfl k) ?_
            show own_Gl _ _ _ _ _ _ _ (T54.setTop (mkF m 238 #[.val (.int p1), .val (.int p2), .val (.int p3), .val (.int p4), .val (.long p5), .second, .val (.int (Int32.ofNat c9)), .val (.int g), .val (.long (own_base p5)), .second, .val (.ref b1), .unset, .unset, .unset, .unset, .unset, .unset, .unset, .unset, .unset, .unset, .unset, .unset, .unset, .unset] [(.int (Int32.ofNat c9))]))
            refine own_st (fun _ k => XS.bipush X54.here hx rfl (hb hby at_238) k) ?_
            have hd110 : ¬ ((8 : Int32) < (Int32.ofNat c9)) := fun q => by have := (own_lt9 8 c9 (by decide) hc9).mp q; omega
            refine own_st (fun _ k => XS.icmpYes X54.here hx rfl (pc0 := 240) (pc' := 263) rfl (hb hby at_240) rfl (flt hd110).2.2.2 (by decide) (by decide) k) ?_
            have hce : 4 = c9 := by omega
            have X111 := X54.more (by decide : 3 ≤ 5) (by decide : 35 ≤ 99)
            have K112 : Keep h0 hh54 [] := (K55.trans Kq54 (allS (Or.inr gh_b1) (allS (Or.inr gh_ob_4) (allS (Or.inr gh_sb_4) all0))))
            have f113 := (f53.keep Kq54)
            have f114 := ((((((Old0.ext E1).keep Kq4 (allS g_b1 all0)).keep Kq39 (allS g_b1 (allS P4_0 (allS P4_2 all0)))).keep Kq44 (allS g_b1 (allS P4_0 (allS P4_2 all0)))).keep Kq49 (allS g_b1 (allS P4_0 (allS P4_2 all0)))).keep Kq54 (allS g_b1 (allS P4_0 (allS P4_2 all0))))
            show own_Gl _ _ _ _ _ _ _ (T54.setTop (mkF m 263 #[.val (.int p1), .val (.int p2), .val (.int p3), .val (.int p4), .val (.long p5), .second, .val (.int (Int32.ofNat c9)), .val (.int g), .val (.long (own_base p5)), .second, .val (.ref b1), .unset, .unset, .unset, .unset, .unset, .unset, .unset, .unset, .unset, .unset, .unset, .unset, .unset, .unset] []))
            exact J263_9 T54 _ N54 X111 _ eh054 (b1) ((16 : Int32)) (ob_4) (sb_4) (ko_4) (kh_4) (f2_54) Zs56 K112 f113 P54_0 P54_1 P54_3 P54_4 f114 (Or.inl rfl) (hce ▸ P54_5)
        · have hgt3 : ¬ 3 < c9 := fun q => hc110 ((own_lt9 3 c9 (by decide) hc9).mpr q)
          refine own_st (fun _ k => XS.icmpYes X49.here hx rfl (pc0 := 110) (pc' := 132) rfl (hb hby at_110) rfl (flt hc110).2.2.2 (by decide) (by decide) k) ?_
          refine own_st (fun _ k => XS.iload X49.here hx rfl (hb hby at_132) rfl k) ?_
          refine own_st (fun _ k => XS.iconst X49.here hx rfl (hb hby at_134) k) ?_
          have hd115 : ¬ ((4 : Int32) < (Int32.ofNat c9)) := fun q => by have := (own_lt9 4 c9 (by decide) hc9).mp q; omega
          refine own_st (fun _ k => XS.icmpYes X49.here hx rfl (pc0 := 135) (pc' := 157) rfl (hb hby at_135) rfl (flt hd115).2.2.2 (by decide) (by decide) k) ?_
          show own_Gl _ _ _ _ _ _ _ (T49.setTop (mkF m 157 #[.val (.int p1), .val (.int p2), .val (.int p3), .val (.int p4), .val (.long p5), .second, .val (.int (Int32.ofNat c9)), .val (.int g), .val (.long (own_base p5)), .second, .val (.ref b1), .unset, .unset, .unset, .unset, .unset, .unset, .unset, .unset, .unset, .unset, .unset, .unset, .unset, .unset] []))
          refine own_st (fun _ k => XS.iload X49.here hx rfl (hb hby at_157) rfl k) ?_
          refine own_st (fun _ k => XS.iconst X49.here hx rfl (hb hby at_159) k) ?_
          have hd116 : ¬ ((5 : Int32) < (Int32.ofNat c9)) := fun q => by have := (own_lt9 5 c9 (by decide) hc9).mp q; omega
          refine own_st (fun _ k => XS.icmpYes X49.here hx rfl (pc0 := 160) (pc' := 182) rfl (hb hby at_160) rfl (flt hd116).2.2.2 (by decide) (by decide) k) ?_
          refine own_st (fun _ k => XS.iload X49.here hx rfl (hb hby at_182) rfl k) ?_
          show own_Gl _ _ _ _ _ _ _ (T49.setTop (mkF m 184 #[.val (.int p1), .val (.int p2), .val (.int p3), .val (.int p4), .val (.long p5), .second, .val (.int (Int32.ofNat c9)), .val (.int g), .val (.long (own_base p5)), .second, .val (.ref b1), .unset, .unset, .unset, .unset, .unset, .unset, .unset, .unset, .unset, .unset, .unset, .unset, .unset, .unset] [(.int (Int32.ofNat c9))]))
          refine own_st (fun _ k => XS.bipush X49.here hx rfl (hb hby at_184) k) ?_
          have hd117 : ¬ ((6 : Int32) < (Int32.ofNat c9)) := fun q => by have := (own_lt9 6 c9 (by decide) hc9).mp q; omega
          refine own_st (fun _ k => XS.icmpYes X49.here hx rfl (pc0 := 186) (pc' := 209) rfl (hb hby at_186) rfl (flt hd117).2.2.2 (by decide) (by decide) k) ?_
          refine own_st (fun _ k => XS.iload X49.here hx rfl (hb hby at_209) rfl k) ?_
          refine own_st (fun _ k => XS.bipush X49.here hx rfl (hb hby at_211) k) ?_
          show own_Gl _ _ _ _ _ _ _ (T49.setTop (mkF m 213 #[.val (.int p1), .val (.int p2), .val (.int p3), .val (.int p4), .val (.long p5), .second, .val (.int (Int32.ofNat c9)), .val (.int g), .val (.long (own_base p5)), .second, .val (.ref b1), .unset, .unset, .unset, .unset, .unset, .unset, .unset, .unset, .unset, .unset, .unset, .unset, .unset, .unset] [(.int 7), (.int (Int32.ofNat c9))]))
          have hd118 : ¬ ((7 : Int32) < (Int32.ofNat c9)) := fun q => by have := (own_lt9 7 c9 (by decide) hc9).mp q; omega
          refine own_st (fun _ k => XS.icmpYes X49.here hx rfl (pc0 := 213) (pc' := 236) rfl (hb hby at_213) rfl (flt hd118).2.2.2 (by decide) (by decide) k) ?_
          refine own_st (fun _ k => XS.iload X49.here hx rfl (hb hby at_236) rfl k) ?_
          refine own_st (fun _ k => XS.bipush X49.here hx rfl (hb hby at_238) k) ?_
          have hd119 : ¬ ((8 : Int32) < (Int32.ofNat c9)) := fun q => by have := (own_lt9 8 c9 (by decide) hc9).mp q; omega
          refine own_st (fun _ k => XS.icmpYes X49.here hx rfl (pc0 := 240) (pc' := 263) rfl (hb hby at_240) rfl (flt hd119).2.2.2 (by decide) (by decide) k) ?_
          show own_Gl _ _ _ _ _ _ _ (T49.setTop (mkF m 263 #[.val (.int p1), .val (.int p2), .val (.int p3), .val (.int p4), .val (.long p5), .second, .val (.int (Int32.ofNat c9)), .val (.int g), .val (.long (own_base p5)), .second, .val (.ref b1), .unset, .unset, .unset, .unset, .unset, .unset, .unset, .unset, .unset, .unset, .unset, .unset, .unset, .unset] []))
          have hce : 3 = c9 := by omega
          have X120 := X49.more (by decide : 3 ≤ 5) (by decide : 35 ≤ 99)
          have K121 : Keep h0 hh49 [] := (K50.trans Kq49 (allS (Or.inr gh_b1) (allS (Or.inr gh_ob_4) (allS (Or.inr gh_sb_4) all0))))
          have f122 := (f48.keep Kq49)
          have f123 := (((((Old0.ext E1).keep Kq4 (allS g_b1 all0)).keep Kq39 (allS g_b1 (allS P4_0 (allS P4_2 all0)))).keep Kq44 (allS g_b1 (allS P4_0 (allS P4_2 all0)))).keep Kq49 (allS g_b1 (allS P4_0 (allS P4_2 all0))))
          show own_Gl _ _ _ _ _ _ _ (T49.setTop (mkF m 263 #[.val (.int p1), .val (.int p2), .val (.int p3), .val (.int p4), .val (.long p5), .second, .val (.int (Int32.ofNat c9)), .val (.int g), .val (.long (own_base p5)), .second, .val (.ref b1), .unset, .unset, .unset, .unset, .unset, .unset, .unset, .unset, .unset, .unset, .unset, .unset, .unset, .unset] []))
          exact J263_9 T49 _ N49 X120 _ eh049 (b1) ((16 : Int32)) (ob_4) (sb_4) (ko_4) (kh_4) (f2_49) Zs51 K121 f122 P49_0 P49_1 P49_3 P49_4 f123 (Or.inl rfl) (hce ▸ P49_5)
      · have hgt2 : ¬ 2 < c9 := fun q => hc85 ((own_lt9 2 c9 (by decide) hc9).mpr q)
        refine own_st (fun _ k => XS.icmpYes X44.here hx rfl (pc0 := 85) (pc' := 107) rfl (hb hby at_85) rfl (flt hc85).2.2.2 (by decide) (by decide) k) ?_
        show own_Gl _ _ _ _ _ _ _ (T44.setTop (mkF m 107 #[.val (.int p1), .val (.int p2), .val (.int p3), .val (.int p4), .val (.long p5), .second, .val (.int (Int32.ofNat c9)), .val (.int g), .val (.long (own_base p5)), .second, .val (.ref b1), .unset, .unset, .unset, .unset, .unset, .unset, .unset, .unset, .unset, .unset, .unset, .unset, .unset, .unset] []))
        refine own_st (fun _ k => XS.iload X44.here hx rfl (hb hby at_107) rfl k) ?_
        refine own_st (fun _ k => XS.iconst X44.here hx rfl (hb hby at_109) k) ?_
        have hd124 : ¬ ((3 : Int32) < (Int32.ofNat c9)) := fun q => by have := (own_lt9 3 c9 (by decide) hc9).mp q; omega
        refine own_st (fun _ k => XS.icmpYes X44.here hx rfl (pc0 := 110) (pc' := 132) rfl (hb hby at_110) rfl (flt hd124).2.2.2 (by decide) (by decide) k) ?_
        refine own_st (fun _ k => XS.iload X44.here hx rfl (hb hby at_132) rfl k) ?_
        show own_Gl _ _ _ _ _ _ _ (T44.setTop (mkF m 134 #[.val (.int p1), .val (.int p2), .val (.int p3), .val (.int p4), .val (.long p5), .second, .val (.int (Int32.ofNat c9)), .val (.int g), .val (.long (own_base p5)), .second, .val (.ref b1), .unset, .unset, .unset, .unset, .unset, .unset, .unset, .unset, .unset, .unset, .unset, .unset, .unset, .unset] [(.int (Int32.ofNat c9))]))
        refine own_st (fun _ k => XS.iconst X44.here hx rfl (hb hby at_134) k) ?_
        have hd125 : ¬ ((4 : Int32) < (Int32.ofNat c9)) := fun q => by have := (own_lt9 4 c9 (by decide) hc9).mp q; omega
        refine own_st (fun _ k => XS.icmpYes X44.here hx rfl (pc0 := 135) (pc' := 157) rfl (hb hby at_135) rfl (flt hd125).2.2.2 (by decide) (by decide) k) ?_
        refine own_st (fun _ k => XS.iload X44.here hx rfl (hb hby at_157) rfl k) ?_
        refine own_st (fun _ k => XS.iconst X44.here hx rfl (hb hby at_159) k) ?_
        show own_Gl _ _ _ _ _ _ _ (T44.setTop (mkF m 160 #[.val (.int p1), .val (.int p2), .val (.int p3), .val (.int p4), .val (.long p5), .second, .val (.int (Int32.ofNat c9)), .val (.int g), .val (.long (own_base p5)), .second, .val (.ref b1), .unset, .unset, .unset, .unset, .unset, .unset, .unset, .unset, .unset, .unset, .unset, .unset, .unset, .unset] [(.int 5), (.int (Int32.ofNat c9))]))
        have hd126 : ¬ ((5 : Int32) < (Int32.ofNat c9)) := fun q => by have := (own_lt9 5 c9 (by decide) hc9).mp q; omega
        refine own_st (fun _ k => XS.icmpYes X44.here hx rfl (pc0 := 160) (pc' := 182) rfl (hb hby at_160) rfl (flt hd126).2.2.2 (by decide) (by decide) k) ?_
        refine own_st (fun _ k => XS.iload X44.here hx rfl (hb hby at_182) rfl k) ?_
        refine own_st (fun _ k => XS.bipush X44.here hx rfl (hb hby at_184) k) ?_
        have hd127 : ¬ ((6 : Int32) < (Int32.ofNat c9)) := fun q => by have := (own_lt9 6 c9 (by decide) hc9).mp q; omega
        refine own_st (fun _ k => XS.icmpYes X44.here hx rfl (pc0 := 186) (pc' := 209) rfl (hb hby at_186) rfl (flt hd127).2.2.2 (by decide) (by decide) k) ?_
        show own_Gl _ _ _ _ _ _ _ (T44.setTop (mkF m 209 #[.val (.int p1), .val (.int p2), .val (.int p3), .val (.int p4), .val (.long p5), .second, .val (.int (Int32.ofNat c9)), .val (.int g), .val (.long (own_base p5)), .second, .val (.ref b1), .unset, .unset, .unset, .unset, .unset, .unset, .unset, .unset, .unset, .unset, .unset, .unset, .unset, .unset] []))
        refine own_st (fun _ k => XS.iload X44.here hx rfl (hb hby at_209) rfl k) ?_
        refine own_st (fun _ k => XS.bipush X44.here hx rfl (hb hby at_211) k) ?_
        have hd128 : ¬ ((7 : Int32) < (Int32.ofNat c9)) := fun q => by have := (own_lt9 7 c9 (by decide) hc9).mp q; omega
        refine own_st (fun _ k => XS.icmpYes X44.here hx rfl (pc0 := 213) (pc' := 236) rfl (hb hby at_213) rfl (flt hd128).2.2.2 (by decide) (by decide) k) ?_
        refine own_st (fun _ k => XS.iload X44.here hx rfl (hb hby at_236) rfl k) ?_
        show own_Gl _ _ _ _ _ _ _ (T44.setTop (mkF m 238 #[.val (.int p1), .val (.int p2), .val (.int p3), .val (.int p4), .val (.long p5), .second, .val (.int (Int32.ofNat c9)), .val (.int g), .val (.long (own_base p5)), .second, .val (.ref b1), .unset, .unset, .unset, .unset, .unset, .unset, .unset, .unset, .unset, .unset, .unset, .unset, .unset, .unset] [(.int (Int32.ofNat c9))]))
        refine own_st (fun _ k => XS.bipush X44.here hx rfl (hb hby at_238) k) ?_
        have hd129 : ¬ ((8 : Int32) < (Int32.ofNat c9)) := fun q => by have := (own_lt9 8 c9 (by decide) hc9).mp q; omega
        refine own_st (fun _ k => XS.icmpYes X44.here hx rfl (pc0 := 240) (pc' := 263) rfl (hb hby at_240) rfl (flt hd129).2.2.2 (by decide) (by decide) k) ?_
        have hce : 2 = c9 := by omega
        have X130 := X44.more (by decide : 3 ≤ 5) (by decide : 35 ≤ 99)
        have K131 : Keep h0 hh44 [] := (K45.trans Kq44 (allS (Or.inr gh_b1) (allS (Or.inr gh_ob_4) (allS (Or.inr gh_sb_4) all0))))
        have f132 := (f43.keep Kq44)
        have f133 := ((((Old0.ext E1).keep Kq4 (allS g_b1 all0)).keep Kq39 (allS g_b1 (allS P4_0 (allS P4_2 all0)))).keep Kq44 (allS g_b1 (allS P4_0 (allS P4_2 all0))))
        show own_Gl _ _ _ _ _ _ _ (T44.setTop (mkF m 263 #[.val (.int p1), .val (.int p2), .val (.int p3), .val (.int p4), .val (.long p5), .second, .val (.int (Int32.ofNat c9)), .val (.int g), .val (.long (own_base p5)), .second, .val (.ref b1), .unset, .unset, .unset, .unset, .unset, .unset, .unset, .unset, .unset, .unset, .unset, .unset, .unset, .unset] []))
        exact J263_9 T44 _ N44 X130 _ eh044 (b1) ((16 : Int32)) (ob_4) (sb_4) (ko_4) (kh_4) (f2_44) Zs46 K131 f132 P44_0 P44_1 P44_3 P44_4 f133 (Or.inl rfl) (hce ▸ P44_5)
    · have hgt1 : ¬ 1 < c9 := fun q => hc60 ((own_lt9 1 c9 (by decide) hc9).mpr q)
      refine own_st (fun _ k => XS.icmpYes X39.here hx rfl (pc0 := 60) (pc' := 82) rfl (hb hby at_60) rfl (flt hc60).2.2.2 (by decide) (by decide) k) ?_
      refine own_st (fun _ k => XS.iload X39.here hx rfl (hb hby at_82) rfl k) ?_
      show own_Gl _ _ _ _ _ _ _ (T39.setTop (mkF m 84 #[.val (.int p1), .val (.int p2), .val (.int p3), .val (.int p4), .val (.long p5), .second, .val (.int (Int32.ofNat c9)), .val (.int g), .val (.long (own_base p5)), .second, .val (.ref b1), .unset, .unset, .unset, .unset, .unset, .unset, .unset, .unset, .unset, .unset, .unset, .unset, .unset, .unset] [(.int (Int32.ofNat c9))]))
      refine own_st (fun _ k => XS.iconst X39.here hx rfl (hb hby at_84) k) ?_
      have hd134 : ¬ ((2 : Int32) < (Int32.ofNat c9)) := fun q => by have := (own_lt9 2 c9 (by decide) hc9).mp q; omega
      refine own_st (fun _ k => XS.icmpYes X39.here hx rfl (pc0 := 85) (pc' := 107) rfl (hb hby at_85) rfl (flt hd134).2.2.2 (by decide) (by decide) k) ?_
      refine own_st (fun _ k => XS.iload X39.here hx rfl (hb hby at_107) rfl k) ?_
      refine own_st (fun _ k => XS.iconst X39.here hx rfl (hb hby at_109) k) ?_
      show own_Gl _ _ _ _ _ _ _ (T39.setTop (mkF m 110 #[.val (.int p1), .val (.int p2), .val (.int p3), .val (.int p4), .val (.long p5), .second, .val (.int (Int32.ofNat c9)), .val (.int g), .val (.long (own_base p5)), .second, .val (.ref b1), .unset, .unset, .unset, .unset, .unset, .unset, .unset, .unset, .unset, .unset, .unset, .unset, .unset, .unset] [(.int 3), (.int (Int32.ofNat c9))]))
      have hd135 : ¬ ((3 : Int32) < (Int32.ofNat c9)) := fun q => by have := (own_lt9 3 c9 (by decide) hc9).mp q; omega
      refine own_st (fun _ k => XS.icmpYes X39.here hx rfl (pc0 := 110) (pc' := 132) rfl (hb hby at_110) rfl (flt hd135).2.2.2 (by decide) (by decide) k) ?_
      refine own_st (fun _ k => XS.iload X39.here hx rfl (hb hby at_132) rfl k) ?_
      refine own_st (fun _ k => XS.iconst X39.here hx rfl (hb hby at_134) k) ?_
      have hd136 : ¬ ((4 : Int32) < (Int32.ofNat c9)) := fun q => by have := (own_lt9 4 c9 (by decide) hc9).mp q; omega
      refine own_st (fun _ k => XS.icmpYes X39.here hx rfl (pc0 := 135) (pc' := 157) rfl (hb hby at_135) rfl (flt hd136).2.2.2 (by decide) (by decide) k) ?_
      show own_Gl _ _ _ _ _ _ _ (T39.setTop (mkF m 157 #[.val (.int p1), .val (.int p2), .val (.int p3), .val (.int p4), .val (.long p5), .second, .val (.int (Int32.ofNat c9)), .val (.int g), .val (.long (own_base p5)), .second, .val (.ref b1), .unset, .unset, .unset, .unset, .unset, .unset, .unset, .unset, .unset, .unset, .unset, .unset, .unset, .unset] []))
      refine own_st (fun _ k => XS.iload X39.here hx rfl (hb hby at_157) rfl k) ?_
      refine own_st (fun _ k => XS.iconst X39.here hx rfl (hb hby at_159) k) ?_
      have hd137 : ¬ ((5 : Int32) < (Int32.ofNat c9)) := fun q => by have := (own_lt9 5 c9 (by decide) hc9).mp q; omega
      refine own_st (fun _ k => XS.icmpYes X39.here hx rfl (pc0 := 160) (pc' := 182) rfl (hb hby at_160) rfl (flt hd137).2.2.2 (by decide) (by decide) k) ?_
      refine own_st (fun _ k => XS.iload X39.here hx rfl (hb hby at_182) rfl k) ?_
      show own_Gl _ _ _ _ _ _ _ (T39.setTop (mkF m 184 #[.val (.int p1), .val (.int p2), .val (.int p3), .val (.int p4), .val (.long p5), .second, .val (.int (Int32.ofNat c9)), .val (.int g), .val (.long (own_base p5)), .second, .val (.ref b1), .unset, .unset, .unset, .unset, .unset, .unset, .unset, .unset, .unset, .unset, .unset, .unset, .unset, .unset] [(.int (Int32.ofNat c9))]))
      refine own_st (fun _ k => XS.bipush X39.here hx rfl (hb hby at_184) k) ?_
      have hd138 : ¬ ((6 : Int32) < (Int32.ofNat c9)) := fun q => by have := (own_lt9 6 c9 (by decide) hc9).mp q; omega
      refine own_st (fun _ k => XS.icmpYes X39.here hx rfl (pc0 := 186) (pc' := 209) rfl (hb hby at_186) rfl (flt hd138).2.2.2 (by decide) (by decide) k) ?_
      refine own_st (fun _ k => XS.iload X39.here hx rfl (hb hby at_209) rfl k) ?_
      refine own_st (fun _ k => XS.bipush X39.here hx rfl (hb hby at_211) k) ?_
      show own_Gl _ _ _ _ _ _ _ (T39.setTop (mkF m 213 #[.val (.int p1), .val (.int p2), .val (.int p3), .val (.int p4), .val (.long p5), .second, .val (.int (Int32.ofNat c9)), .val (.int g), .val (.long (own_base p5)), .second, .val (.ref b1), .unset, .unset, .unset, .unset, .unset, .unset, .unset, .unset, .unset, .unset, .unset, .unset, .unset, .unset] [(.int 7), (.int (Int32.ofNat c9))]))
      have hd139 : ¬ ((7 : Int32) < (Int32.ofNat c9)) := fun q => by have := (own_lt9 7 c9 (by decide) hc9).mp q; omega
      refine own_st (fun _ k => XS.icmpYes X39.here hx rfl (pc0 := 213) (pc' := 236) rfl (hb hby at_213) rfl (flt hd139).2.2.2 (by decide) (by decide) k) ?_
      refine own_st (fun _ k => XS.iload X39.here hx rfl (hb hby at_236) rfl k) ?_
      refine own_st (fun _ k => XS.bipush X39.here hx rfl (hb hby at_238) k) ?_
      have hd140 : ¬ ((8 : Int32) < (Int32.ofNat c9)) := fun q => by have := (own_lt9 8 c9 (by decide) hc9).mp q; omega
      refine own_st (fun _ k => XS.icmpYes X39.here hx rfl (pc0 := 240) (pc' := 263) rfl (hb hby at_240) rfl (flt hd140).2.2.2 (by decide) (by decide) k) ?_
      show own_Gl _ _ _ _ _ _ _ (T39.setTop (mkF m 263 #[.val (.int p1), .val (.int p2), .val (.int p3), .val (.int p4), .val (.long p5), .second, .val (.int (Int32.ofNat c9)), .val (.int g), .val (.long (own_base p5)), .second, .val (.ref b1), .unset, .unset, .unset, .unset, .unset, .unset, .unset, .unset, .unset, .unset, .unset, .unset, .unset, .unset] []))
      have hce : 1 = c9 := by omega
      have X141 := X39.more (by decide : 3 ≤ 5) (by decide : 35 ≤ 99)
      have K142 : Keep h0 hh39 [] := (K40.trans Kq39 (allS (Or.inr gh_b1) (allS (Or.inr gh_ob_4) (allS (Or.inr gh_sb_4) all0))))
      have f143 := (f38.keep Kq39)
      have f144 := (((Old0.ext E1).keep Kq4 (allS g_b1 all0)).keep Kq39 (allS g_b1 (allS P4_0 (allS P4_2 all0))))
      show own_Gl _ _ _ _ _ _ _ (T39.setTop (mkF m 263 #[.val (.int p1), .val (.int p2), .val (.int p3), .val (.int p4), .val (.long p5), .second, .val (.int (Int32.ofNat c9)), .val (.int g), .val (.long (own_base p5)), .second, .val (.ref b1), .unset, .unset, .unset, .unset, .unset, .unset, .unset, .unset, .unset, .unset, .unset, .unset, .unset, .unset] []))
      exact J263_9 T39 _ N39 X141 _ eh039 (b1) ((16 : Int32)) (ob_4) (sb_4) (ko_4) (kh_4) (f2_39) Zs41 K142 f143 P39_0 P39_1 P39_3 P39_4 f144 (Or.inl rfl) (hce ▸ P39_5)
  · have hgt0 : ¬ 0 < c9 := fun q => hc37 ((own_lt9 0 c9 (by decide) hc9).mpr q)
    refine own_st (fun _ k => XS.ifYes X4.here hx rfl (pc0 := 37) (pc' := 57) rfl (hb hby at_37) rfl ((if0 _ _).trans (flt hc37).2.2.2) (by decide) (by decide) k) ?_
    refine own_st (fun _ k => XS.iload X4.here hx rfl (hb hby at_57) rfl k) ?_
    refine own_st (fun _ k => XS.iconst X4.here hx rfl (hb hby at_59) k) ?_
    show own_Gl _ _ _ _ _ _ _ (T4.setTop (mkF m 60 #[.val (.int p1), .val (.int p2), .val (.int p3), .val (.int p4), .val (.long p5), .second, .val (.int (Int32.ofNat c9)), .val (.int g), .val (.long (own_base p5)), .second, .val (.ref b1), .unset, .unset, .unset, .unset, .unset, .unset, .unset, .unset, .unset, .unset, .unset, .unset, .unset, .unset] [(.int 1), (.int (Int32.ofNat c9))]))
    have hd145 : ¬ ((1 : Int32) < (Int32.ofNat c9)) := fun q => by have := (own_lt9 1 c9 (by decide) hc9).mp q; omega
    refine own_st (fun _ k => XS.icmpYes X4.here hx rfl (pc0 := 60) (pc' := 82) rfl (hb hby at_60) rfl (flt hd145).2.2.2 (by decide) (by decide) k) ?_
    refine own_st (fun _ k => XS.iload X4.here hx rfl (hb hby at_82) rfl k) ?_
    refine own_st (fun _ k => XS.iconst X4.here hx rfl (hb hby at_84) k) ?_
    have hd146 : ¬ ((2 : Int32) < (Int32.ofNat c9)) := fun q => by have := (own_lt9 2 c9 (by decide) hc9).mp q; omega
    refine own_st (fun _ k => XS.icmpYes X4.here hx rfl (pc0 := 85) (pc' := 107) rfl (hb hby at_85) rfl (flt hd146).2.2.2 (by decide) (by decide) k) ?_
    show own_Gl _ _ _ _ _ _ _ (T4.setTop (mkF m 107 #[.val (.int p1), .val (.int p2), .val (.int p3), .val (.int p4), .val (.long p5), .second, .val (.int (Int32.ofNat c9)), .val (.int g), .val (.long (own_base p5)), .second, .val (.ref b1), .unset, .unset, .unset, .unset, .unset, .unset, .unset, .unset, .unset, .unset, .unset, .unset, .unset, .unset] []))
    refine own_st (fun _ k => XS.iload X4.here hx rfl (hb hby at_107) rfl k) ?_
    refine own_st (fun _ k => XS.iconst X4.here hx rfl (hb hby at_109) k) ?_
    have hd147 : ¬ ((3 : Int32) < (Int32.ofNat c9)) := fun q => by have := (own_lt9 3 c9 (by decide) hc9).mp q; omega
    refine own_st (fun _ k => XS.icmpYes X4.here hx rfl (pc0 := 110) (pc' := 132) rfl (hb hby at_110) rfl (flt hd147).2.2.2 (by decide) (by decide) k) ?_
    refine own_st (fun _ k => XS.iload X4.here hx rfl (hb hby at_132) rfl k) ?_
    show own_Gl _ _ _ _ _ _ _ (T4.setTop (mkF m 134 #[.val (.int p1), .val (.int p2), .val (.int p3), .val (.int p4), .val (.long p5), .second, .val (.int (Int32.ofNat c9)), .val (.int g), .val (.long (own_base p5)), .second, .val (.ref b1), .unset, .unset, .unset, .unset, .unset, .unset, .unset, .unset, .unset, .unset, .unset, .unset, .unset, .unset] [(.int (Int32.ofNat c9))]))
    refine own_st (fun _ k => XS.iconst X4.here hx rfl (hb hby at_134) k) ?_
    have hd148 : ¬ ((4 : Int32) < (Int32.ofNat c9)) := fun q => by have := (own_lt9 4 c9 (by decide) hc9).mp q; omega
    refine own_st (fun _ k => XS.icmpYes X4.here hx rfl (pc0 := 135) (pc' := 157) rfl (hb hby at_135) rfl (flt hd148).2.2.2 (by decide) (by decide) k) ?_
    refine own_st (fun _ k => XS.iload X4.here hx rfl (hb hby at_157) rfl k) ?_
    refine own_st (fun _ k => XS.iconst X4.here hx rfl (hb hby at_159) k) ?_
    show own_Gl _ _ _ _ _ _ _ (T4.setTop (mkF m 160 #[.val (.int p1), .val (.int p2), .val (.int p3), .val (.int p4), .val (.long p5), .second, .val (.int (Int32.ofNat c9)), .val (.int g), .val (.long (own_base p5)), .second, .val (.ref b1), .unset, .unset, .unset, .unset, .unset, .unset, .unset, .unset, .unset, .unset, .unset, .unset, .unset, .unset] [(.int 5), (.int (Int32.ofNat c9))]))
    have hd149 : ¬ ((5 : Int32) < (Int32.ofNat c9)) := fun q => by have := (own_lt9 5 c9 (by decide) hc9).mp q; omega
    refine own_st (fun _ k => XS.icmpYes X4.here hx rfl (pc0 := 160) (pc' := 182) rfl (hb hby at_160) rfl (flt hd149).2.2.2 (by decide) (by decide) k) ?_
    refine own_st (fun _ k => XS.iload X4.here hx rfl (hb hby at_182) rfl k) ?_
    refine own_st (fun _ k => XS.bipush X4.here hx rfl (hb hby at_184) k) ?_
    have hd150 : ¬ ((6 : Int32) < (Int32.ofNat c9)) := fun q => by have := (own_lt9 6 c9 (by decide) hc9).mp q; omega
    refine own_st (fun _ k => XS.icmpYes X4.here hx rfl (pc0 := 186) (pc' := 209) rfl (hb hby at_186) rfl (flt hd150).2.2.2 (by decide) (by decide) k) ?_
    show own_Gl _ _ _ _ _ _ _ (T4.setTop (mkF m 209 #[.val (.int p1), .val (.int p2), .val (.int p3), .val (.int p4), .val (.long p5), .second, .val (.int (Int32.ofNat c9)), .val (.int g), .val (.long (own_base p5)), .second, .val (.ref b1), .unset, .unset, .unset, .unset, .unset, .unset, .unset, .unset, .unset, .unset, .unset, .unset, .unset, .unset] []))
    refine own_st (fun _ k => XS.iload X4.here hx rfl (hb hby at_209) rfl k) ?_
    refine own_st (fun _ k => XS.bipush X4.here hx rfl (hb hby at_211) k) ?_
    have hd151 : ¬ ((7 : Int32) < (Int32.ofNat c9)) := fun q => by have := (own_lt9 7 c9 (by decide) hc9).mp q; omega
    refine own_st (fun _ k => XS.icmpYes X4.here hx rfl (pc0 := 213) (pc' := 236) rfl (hb hby at_213) rfl (flt hd151).2.2.2 (by decide) (by decide) k) ?_
    refine own_st (fun _ k => XS.iload X4.here hx rfl (hb hby at_236) rfl k) ?_
    show own_Gl _ _ _ _ _ _ _ (T4.setTop (mkF m 238 #[.val (.int p1), .val (.int p2), .val (.int p3), .val (.int p4), .val (.long p5), .second, .val (.int (Int32.ofNat c9)), .val (.int g), .val (.long (own_base p5)), .second, .val (.ref b1), .unset, .unset, .unset, .unset, .unset, .unset, .unset, .unset, .unset, .unset, .unset, .unset, .unset, .unset] [(.int (Int32.ofNat c9))]))
    refine own_st (fun _ k => XS.bipush X4.here hx rfl (hb hby at_238) k) ?_
    have hd152 : ¬ ((8 : Int32) < (Int32.ofNat c9)) := fun q => by have := (own_lt9 8 c9 (by decide) hc9).mp q; omega
    refine own_st (fun _ k => XS.icmpYes X4.here hx rfl (pc0 := 240) (pc' := 263) rfl (hb hby at_240) rfl (flt hd152).2.2.2 (by decide) (by decide) k) ?_
    have hce : 0 = c9 := by omega
    have X153 := X4.more (by decide : 3 ≤ 5) (by decide : 35 ≤ 99)
    have K154 : Keep h0 hh4 [] := (K5.trans Kq4 (allS (Or.inr gh_b1) all0))
    have f155 := (A1.keep Kq4)
    have f156 := ((Old0.ext E1).keep Kq4 (allS g_b1 all0))
    show own_Gl _ _ _ _ _ _ _ (T4.setTop (mkF m 263 #[.val (.int p1), .val (.int p2), .val (.int p3), .val (.int p4), .val (.long p5), .second, .val (.int (Int32.ofNat c9)), .val (.int g), .val (.long (own_base p5)), .second, .val (.ref b1), .unset, .unset, .unset, .unset, .unset, .unset, .unset, .unset, .unset, .unset, .unset, .unset, .unset, .unset] []))
    exact J263_9 T4 _ N4 X153 _ eh04 (b1) ((16 : Int32)) (ob_4) (sb_4) (ko_4) (kh_4) ((fun _ => 0)) Zs6 K154 f155 P4_5 P4_6 Vz7 Vz8 f156 (Or.inl rfl) (hce ▸ hok0)

theorem own_cval {args : Array Value} {s : State} {t : Term} {idx : List Nat} {r : Addr} {j : Int32} {C n d : String} (ev : t.eval args s none idx s = some (.ref r)) (ej : (Term.index 0).eval args s none idx s = some (.int j))
    (h : (Jvm.Cond.eq (Term.field t C n d) (Term.op1 Jvm.Unary.i2l (Term.sub (Term.index 0) (Term.int (128 : Int32))))).value args s none s idx = some true) : Fld s s.heap r C n d (.long (j - (128 : Int32)).toInt64) := by
  have e2 : (Term.op1 Jvm.Unary.i2l (Term.sub (Term.index 0) (Term.int (128 : Int32)))).eval args s none idx s = some (.long (j - (128 : Int32)).toInt64) := by
    have e3 : (Term.sub (Term.index 0) (Term.int (128 : Int32))).eval args s none idx s = some (.int (j - (128 : Int32))) := Term.sub_int ej (Term.int_eval _)
    show ((Term.sub (Term.index 0) (Term.int (128 : Int32))).eval args s none idx s).bind (fun v => Jvm.Unary.i2l.apply v) = _
    rw [e3]; rfl
  apply Fld.start
  rw [← fld_at ev]
  simp only [Cond.value, e2] at h
  cases e1 : (Term.field t C n d).eval args s none idx s with
  | none => simp [e1] at h
  | some x => cases x <;> simp [e1] at h ⊢ <;> exact h
theorem own_256 {n : Nat} (h : n < 2 ^ 31) (e : n.toInt32 = (256 : Int32)) : n = (256 : Int32).toNatClampNeg := by
  have q := len_toInt h
  rw [e] at q
  have e4 : (256 : Int32).toInt = 256 := by decide
  have e5 : (256 : Int32).toNatClampNeg = 256 := by decide
  omega
theorem own_len0 {n : Nat} (h : n < 2 ^ 31) (e : n.toInt32 = (0 : Int32)) : n = 0 := by
  have q := len_toInt h
  rw [e] at q
  have e4 : (0 : Int32).toInt = 0 := by decide
  omega


theorem comes_1 {Post : Tables → Env → Array Value → State → Outcome → State → Prop} (hpost : ∀ tb e args s v u, (limb_1_1.after args s (.returned v) u = true ∧ limb_1_2.after args s (.returned v) u = true ∧ True) → FrameEnd s (.returned v) u (Jvm.fieldLocs frame_1_writes args s ++ Jvm.arrayLocs frame_1_arrays args s ++ Jvm.staticLocs frame_1_statics s) 40 320 → Post tb e args s (.returned v) u) :
    ArmFor flags0 classFile x code maxLocals ret World_1 tables_1 room_1 Calls_1 rest_1 Pre_1 Post := by
  intro l hfl _ _ p e ha hc hk s m args below hf hA hF happ hP
  obtain ⟨hcalls, hrest, hpre⟩ := hP
  obtain ⟨-, -, -, hnamed, -, -, -, hat⟩ := (Spec.applies_iff hf).mp happ
  obtain ⟨hg, hn⟩ := and_e (Cond.before_iff.mp (show (Jvm.Cond.and given_1 narrow_1).before args s = true from hpre))
  obtain ⟨gg1, gg2⟩ := and_e hg
  obtain ⟨gg3, gg4⟩ := and_e gg2
  obtain ⟨gg5, gg6⟩ := and_e gg4
  obtain ⟨gg7, gg8⟩ := and_e gg6
  obtain ⟨gg9, gg10⟩ := and_e gg8
  obtain ⟨w0, w1, w2, w3, w4, rfl⟩ : ∃ w0 w1 w2 w3 w4 : Value, args = #[w0, w1, w2, w3, w4] := by
    have hs : args.size = 5 := by simpa [Cond.value, given_1] using gg1
    obtain ⟨L⟩ := args
    match L, hs with
    | [w0, w1, w2, w3, w4], _ => exact ⟨w0, w1, w2, w3, w4, rfl⟩
  have hw := fun d (hd : d ∈ tables_1) => atoms_spec (ws := Jvm.Cond.code x code maxLocals ret :: tables_1) hat d (List.mem_cons_of_mem _ hd)
  have hfit : Fit s := fun {y c} hc i hi => by
    obtain ⟨ha, rfl⟩ := Array.getElem?_eq_some_iff.mp hc
    have q := List.all_eq_true.mp ((Array.all_eq_true_iff_forall_mem.mp hF) _ (Array.getElem_mem ha)) i (List.mem_range.mpr hi)
    simpa [Array.getElem?_eq_getElem hi] using q
  obtain ⟨hsets, hown0⟩ := atoms_of _ (rest_1_c_eq ▸ (show rest_1_c.before _ s = true from hrest))
  have hr0 := Cond.before_iff.mp hown0
  obtain ⟨i0, ei0⟩ := is_v gg3
  obtain rfl : w0 = (.int i0) := Option.some.inj ei0
  obtain ⟨i1, ei1⟩ := is_v gg5
  obtain rfl : w1 = (.int i1) := Option.some.inj ei1
  obtain ⟨i2, ei2⟩ := is_v gg7
  obtain rfl : w2 = (.int i2) := Option.some.inj ei2
  obtain ⟨i3, ei3⟩ := is_v gg9
  obtain rfl : w3 = (.int i3) := Option.some.inj ei3
  obtain ⟨i4, ei4⟩ := isL_v gg10
  obtain rfl : w4 = (.long i4) := Option.some.inj ei4
  obtain ⟨de, ev_d⟩ := arr_v (Cond.before_iff.mp (hsets _ (List.mem_of_getElem? (i := 6) rfl)))
  obtain ⟨dcl, xad⟩ := Arr.start ev_d (Cond.before_iff.mp (hsets _ (List.mem_of_getElem? (i := 6) rfl)))
  have xs_d := Sta.start ev_d (Or.inr ⟨(oW hw 44 rfl), (hsets _ (List.mem_of_getElem? (i := 2) rfl))⟩)
  obtain ⟨dsz, dlen⟩ := Jvm.Free.IntBox.length_fwd (hsets _ (List.mem_of_getElem? (i := 8) rfl)) ev_d xad.1 xad.2.1 xad.2.2
  have xde := own_arv0 (d := .null) xad (own_len0 dsz dlen)
  obtain ⟨ca, ev_c⟩ := arr_v (Cond.before_iff.mp (hsets _ (List.mem_of_getElem? (i := 11) rfl)))
  obtain ⟨ccl, xarr⟩ := Arr.start ev_c (Cond.before_iff.mp (hsets _ (List.mem_of_getElem? (i := 11) rfl)))
  have xs_c := Sta.start ev_c (Or.inr ⟨(oW hw 181 rfl), (hsets _ (List.mem_of_getElem? (i := 9) rfl))⟩)
  obtain ⟨xsz, xlen⟩ := Jvm.Free.IntBox.length_fwd (hsets _ (List.mem_of_getElem? (i := 13) rfl)) ev_c xarr.1 xarr.2.1 xarr.2.2
  have x256 := own_256 xsz xlen
  have xhat := Jvm.Free.IntBox.arrayAt_of xarr.1 xarr.2.1 xarr.2.2
  have xall := Cond.all_elim ev_c xhat (Cond.before_iff.mp (hsets _ (List.mem_of_getElem? (i := 14) rfl)))
  have xcache : ∀ j : Int32, ¬ j < 0 → j < (256 : Int32) → ∃ r : Addr, ccl.slots[j.toNatClampNeg]? = some (.ref r) ∧ Exa s s.heap r "java/lang/Long" ∧ Fld s s.heap r "java/lang/Long" "value" "J" (.long (j - (128 : Int32)).toInt64) := by
    intro j hj0 hj1
    have hlt : j.toNatClampNeg < ccl.slots.size := by
      have q := inb_of (c := ccl) (z := (256 : Int32)) x256 ⟨hj0, hj1⟩
      exact Nat.lt_of_not_le fun y => q (Or.inr y)
    obtain ⟨q1, q2⟩ := and_e (xall _ hlt)
    obtain ⟨r, evr⟩ := exa_v q1
    exact ⟨r, (elem_in evr ev_c (idx_at hj0) xarr.1).2, exa_at evr q1, own_cval evr (idx_at hj0) q2⟩
  obtain ⟨n, o, h1, h2, h3, _, L, rfl, ⟨rfl, N⟩, hq⟩ := own_law l s _ hw tables_1 i0 i1 i2 i3 i4 de dcl.cls ca ccl s.heap s.heap.size (Nat.le_refl _) (Old.start s) xs_d xde xs_c xarr x256 xcache p e ha hc hk s m _ below hf ((Spec.applies_iff_loose hf).mp happ).1 ⟨rfl, State.Warmed39.refl s, rfl⟩ trivial
  refine ⟨n, _, h1, h2, h3, hpost _ _ _ _ _ _ ⟨Cond.after_iff.mpr rfl, Cond.after_iff.mpr (eq_i res_at (Term.int_eval (1)) rfl), trivial⟩ ⟨hq.1, hq.2.1, (hq.2.2.sift fun y hy => Or.inr (N y hy)).mono (by decide) (by decide)⟩⟩
theorem main_1_1 : Claimed_1_1 := comes_1 fun _ _ _ _ _ _ h hF => ⟨h.1, hF⟩
theorem main_1_2 : Claimed_1_2 := comes_1 fun _ _ _ _ _ _ h hF => ⟨h.2.1, hF⟩

end Jvm.Pilot.@@N@@
namespace Jvm.Pilot.@@N@@
open Jvm Jvm.ClassFile Sem Op Lib Jvm.Free Jvm.Stand Jvm.Pilot.@@N@@.Jvm.D
/-! MADE BY PROGRAM (witnessworld.py) out of the Statement's table words and the real class files: 30 classes; the members and pool entries that the words name. The judged class is class 1, her method 1. -/
namespace start1
open Jvm.ClassFile
def u (s : String) : CpInfo := .utf8 (stringToUtf16 s)
/-- a pool by its gaps: so many unusable entries, then the entry; so many at the end -/
def gap : Nat → List CpInfo → List CpInfo
  | 0, r => r
  | n + 1, r => .unusable :: gap n r
def poolList (es : List (Nat × CpInfo)) (last : Nat) : List CpInfo := es.foldr (fun e r => gap e.1 (e.2 :: r)) (gap last [])
def pool (es : List (Nat × CpInfo)) (last : Nat) : Array CpInfo := ⟨poolList es last⟩
def fileOf (pool : Array CpInfo) (this : Nat) (attrs : Array Attribute := #[]) (ms : Array MethodInfo := #[]) (fl : Nat := 33) (sup : Nat := 0) (ifs : Array Nat := #[]) (fds : Array FieldInfo := #[]) : ClassFile where
  minorVersion := 0
  majorVersion := 65
  constantPool := pool
  accessFlags := fl
  thisClass := this
  superClass := sup
  interfaces := ifs
  fields := fds
  methods := ms
  attributes := attrs
def plain (name : String) (sup : Option ClassId) : Class where
  name := name
  kind := .ordinary
  loader := none
  accessFlags := 33
  super := sup
  interfaces := #[]
  cf := none
  fields := #[]
  methods := #[]
  instanceTypes := #[]
  staticTypes := #[]
  resolved := #[]
  callSites := []
  init := .initialized
  statics := none
  mirror := none

def pool0 : Array CpInfo := pool [(5, u "<init>"), (0, u "()V"), (1, .class_ 10), (1, u "java/lang/Object")] 113

def k0c0 : Code := { maxStack := 0, maxLocals := 1, code := object_method_1_code, exceptionTable := #[], attributes := #[] }
def k0m0 : Method := { name := "<init>", desc := "()V", sig := { parameters := [], returnType := none }, accessFlags := 1, code := some k0c0 }
/-- java/lang/Object -/
def k0 : Class := { plain "java/lang/Object" none with
  accessFlags := 33
  interfaces := #[]
  cf := some (fileOf pool0 8 #[] #[{ accessFlags := 1, nameIndex := 5, descriptorIndex := 6, attributes := #[] }] 33 0 #[] #[])
  fields := #[]
  methods := #[k0m0]
  instanceTypes := #[]
  staticTypes := #[]
  resolved := Array.replicate 124 none
  statics := none }

def pool1 : Array CpInfo := pool [(2, .class_ 4), (0, .nameAndType 5 6), (0, u "java/lang/Object"), (0, u "<init>"), (0, u "()V"), (0, .integer 2147483647), (0, .long 576460752303423487), (1, .class_ 11), (0, u "com/example/assayline/assayline/core/MessageIndex"), (0, .methodref 10 3), (0, .methodref 14 15), (0, .class_ 16), (0, .nameAndType 17 18), (0, u "com/example/assayline/assayline/core/MessageIndexAddPinLaw"), (0, u "hashOf"), (0, u "(IIII)I"), (0, .methodref 10 20), (0, .nameAndType 21 22), (0, u "add"), (0, u "(IJ)V"), (0, .long 2), (1, .long 3), (1, .long 4), (1, .long 5), (1, .long 6), (1, .long 7), (1, .long 8), (1, .long 9), (1, .methodref 10 40), (0, .nameAndType 41 42), (0, u "offsetsOf"), (0, u "(I)Ljava/util/List;"), (0, .methodref 14 44), (0, .nameAndType 45 46), (0, u "bit"), (0, u "(II)I"), (0, .interfaceMethodref 48 49), (0, .class_ 50), (0, .nameAndType 51 52), (0, u "java/util/List"), (0, u "size"), (0, u "()I"), (0, .methodref 14 54), (0, .nameAndType 55 56), (0, u "bitOf"), (0, u "(Ljava/util/List;IJ)I"), (0, .interfaceMethodref 48 58), (0, .nameAndType 59 60), (0, u "get"), (0, u "(I)Ljava/lang/Object;"), (0, .class_ 62), (0, u "java/lang/Long"), (0, .methodref 61 64), (0, .nameAndType 65 66), (0, u "longValue"), (0, u "()J"), (0, .integer 1048576), (2, u "law"), (0, u "(IIIIJ)Z")] 5

def k1m0 : Method := { name := "<init>", desc := "()V", sig := { parameters := [], returnType := none }, accessFlags := 1, code := none }
def k1c1 : Code := { maxStack := 6, maxLocals := 25, code := code, exceptionTable := #[], attributes := #[] }
def k1m1 : Method := { name := "law", desc := "(IIIIJ)Z", sig := { parameters := [.int, .int, .int, .int, .long], returnType := some .boolean }, accessFlags := 9, code := some k1c1 }
def k1c2 : Code := { maxStack := 2, maxLocals := 2, code := method_3_code, exceptionTable := #[], attributes := #[] }
def k1m2 : Method := { name := "bit", desc := "(II)I", sig := { parameters := [.int, .int], returnType := some .int }, accessFlags := 10, code := some k1c2 }
def k1c3 : Code := { maxStack := 2, maxLocals := 4, code := method_4_code, exceptionTable := #[], attributes := #[] }
def k1m3 : Method := { name := "hashOf", desc := "(IIII)I", sig := { parameters := [.int, .int, .int, .int], returnType := some .int }, accessFlags := 10, code := some k1c3 }
def k1c4 : Code := { maxStack := 5, maxLocals := 8, code := method_5_code, exceptionTable := #[], attributes := #[] }
def k1m4 : Method := { name := "bitOf", desc := "(Ljava/util/List;IJ)I", sig := { parameters := [(.object "java/util/List"), .int, .long], returnType := some .int }, accessFlags := 10, code := some k1c4 }
/-- com/example/assayline/assayline/core/MessageIndexAddPinLaw -/
def k1 : Class := { plain "com/example/assayline/assayline/core/MessageIndexAddPinLaw" (some 0) with
  accessFlags := 49
  interfaces := #[]
  cf := some (fileOf pool1 14 #[] #[{ accessFlags := 1, nameIndex := 5, descriptorIndex := 6, attributes := #[] }, { accessFlags := 9, nameIndex := 70, descriptorIndex := 71, attributes := #[] }, { accessFlags := 10, nameIndex := 45, descriptorIndex := 46, attributes := #[] }, { accessFlags := 10, nameIndex := 17, descriptorIndex := 18, attributes := #[] }, { accessFlags := 10, nameIndex := 55, descriptorIndex := 56, attributes := #[] }] 49 2 #[] #[])
  fields := #[]
  methods := #[k1m0, k1m1, k1m2, k1m3, k1m4]
  instanceTypes := #[]
  staticTypes := #[]
  resolved := Array.replicate 77 none
  statics := none }

def pool2 : Array CpInfo := pool [(1, .methodref 2 3), (0, .class_ 4), (0, .nameAndType 5 6), (0, u "java/lang/Object"), (0, u "<init>"), (0, u "()V"), (0, .fieldref 8 9), (0, .class_ 10), (0, .nameAndType 11 12), (0, u "com/example/assayline/assayline/core/MessageIndex"), (0, u "offsets"), (0, u "[J"), (0, .fieldref 8 14), (0, .nameAndType 15 16), (0, u "hashes"), (0, u "[I"), (0, .fieldref 8 18), (0, .nameAndType 19 20), (0, u "size"), (0, u "I"), (0, .class_ 22), (0, u "java/lang/Long"), (0, .long 9223372036854775807), (1, .methodref 8 26), (0, .nameAndType 27 28), (0, u "rebuild"), (0, u "(IJ)V"), (0, .methodref 8 30), (0, .nameAndType 31 28), (0, u "place"), (0, .class_ 33), (0, u "java/util/ArrayList"), (0, .methodref 32 3), (0, .methodref 8 36), (0, .nameAndType 37 38), (0, u "first"), (0, u "(I)I"), (0, .methodref 21 40), (0, .nameAndType 41 42), (0, u "valueOf"), (0, u "(J)Ljava/lang/Long;"), (0, .interfaceMethodref 44 45), (0, .class_ 46), (0, .nameAndType 47 48), (0, u "java/util/List"), (0, u "add"), (0, u "(Ljava/lang/Object;)Z"), (0, .methodref 8 50), (0, .nameAndType 51 38), (0, u "next"), (0, .integer 2654435769), (5, u "offsetsOf"), (0, u "(I)Ljava/util/List;")] 6

def k2c0 : Code := { maxStack := 2, maxLocals := 1, code := prog_40_method_1_code, exceptionTable := #[], attributes := #[] }
def k2m0 : Method := { name := "<init>", desc := "()V", sig := { parameters := [], returnType := none }, accessFlags := 0, code := some k2c0 }
def k2c1 : Code := { maxStack := 4, maxLocals := 4, code := prog_40_method_2_code, exceptionTable := #[], attributes := #[] }
def k2m1 : Method := { name := "add", desc := "(IJ)V", sig := { parameters := [.int, .long], returnType := none }, accessFlags := 0, code := some k2c1 }
def k2c2 : Code := { maxStack := 4, maxLocals := 4, code := prog_40_method_4_code, exceptionTable := #[], attributes := #[] }
def k2m2 : Method := { name := "offsetsOf", desc := "(I)Ljava/util/List;", sig := { parameters := [.int], returnType := some (.object "java/util/List") }, accessFlags := 0, code := some k2c2 }
def k2c3 : Code := { maxStack := 4, maxLocals := 7, code := prog_40_method_5_code, exceptionTable := #[], attributes := #[] }
def k2m3 : Method := { name := "rebuild", desc := "(IJ)V", sig := { parameters := [.int, .long], returnType := none }, accessFlags := 2, code := some k2c3 }
def k2c4 : Code := { maxStack := 4, maxLocals := 5, code := prog_40_method_6_code, exceptionTable := #[], attributes := #[] }
def k2m4 : Method := { name := "place", desc := "(IJ)V", sig := { parameters := [.int, .long], returnType := none }, accessFlags := 2, code := some k2c4 }
def k2c5 : Code := { maxStack := 2, maxLocals := 2, code := prog_40_method_7_code, exceptionTable := #[], attributes := #[] }
def k2m5 : Method := { name := "first", desc := "(I)I", sig := { parameters := [.int], returnType := some .int }, accessFlags := 2, code := some k2c5 }
def k2c6 : Code := { maxStack := 2, maxLocals := 2, code := prog_40_method_8_code, exceptionTable := #[], attributes := #[] }
def k2m6 : Method := { name := "next", desc := "(I)I", sig := { parameters := [.int], returnType := some .int }, accessFlags := 2, code := some k2c6 }
/-- com/example/assayline/assayline/core/MessageIndex -/
def k2 : Class := { plain "com/example/assayline/assayline/core/MessageIndex" (some 0) with
  accessFlags := 48
  interfaces := #[]
  cf := some (fileOf pool2 8 #[] #[{ accessFlags := 0, nameIndex := 5, descriptorIndex := 6, attributes := #[] }, { accessFlags := 0, nameIndex := 47, descriptorIndex := 28, attributes := #[] }, { accessFlags := 0, nameIndex := 58, descriptorIndex := 59, attributes := #[] }, { accessFlags := 2, nameIndex := 27, descriptorIndex := 28, attributes := #[] }, { accessFlags := 2, nameIndex := 31, descriptorIndex := 28, attributes := #[] }, { accessFlags := 2, nameIndex := 37, descriptorIndex := 38, attributes := #[] }, { accessFlags := 2, nameIndex := 51, descriptorIndex := 38, attributes := #[] }] 48 2 #[] #[{ accessFlags := 2, nameIndex := 11, descriptorIndex := 12, attributes := #[] }, { accessFlags := 2, nameIndex := 15, descriptorIndex := 16, attributes := #[] }, { accessFlags := 2, nameIndex := 19, descriptorIndex := 20, attributes := #[] }])
  fields := #[{ name := "offsets", type := (.array .long), accessFlags := 2, slot := 0, constantValue := 0 }, { name := "hashes", type := (.array .int), accessFlags := 2, slot := 1, constantValue := 0 }, { name := "size", type := .int, accessFlags := 2, slot := 2, constantValue := 0 }]
  methods := #[k2m0, k2m1, k2m2, k2m3, k2m4, k2m5, k2m6]
  instanceTypes := #[(.array .long), (.array .int), .int]
  staticTypes := #[]
  resolved := Array.replicate 66 none
  statics := none }

def pool3 : Array CpInfo := pool [(8, .class_ 10), (1, u "java/lang/Iterable"), (24, .class_ 36), (0, u "java/lang/Object")] 25

/-- java/lang/Iterable -/
def k3 : Class := { plain "java/lang/Iterable" (some 0) with
  accessFlags := 1537
  interfaces := #[]
  cf := some (fileOf pool3 8 #[] #[] 1537 35 #[] #[])
  fields := #[]
  methods := #[]
  instanceTypes := #[]
  staticTypes := #[]
  resolved := Array.replicate 62 none
  statics := none }

def pool4 : Array CpInfo := pool [(10, .class_ 12), (1, u "java/util/Collection"), (47, .class_ 61), (0, u "java/lang/Object"), (0, .class_ 63), (0, u "java/lang/Iterable")] 51

/-- java/util/Collection -/
def k4 : Class := { plain "java/util/Collection" (some 0) with
  accessFlags := 1537
  interfaces := #[3]
  cf := some (fileOf pool4 10 #[] #[] 1537 60 #[62] #[])
  fields := #[]
  methods := #[]
  instanceTypes := #[]
  staticTypes := #[]
  resolved := Array.replicate 115 none
  statics := none }

def pool5 : Array CpInfo := pool [(1, .methodref 2 3), (0, .class_ 4), (0, .nameAndType 5 6), (0, u "java/lang/Object"), (0, u "<init>"), (0, u "()V"), (1, .class_ 10), (1, u "java/util/AbstractCollection"), (66, .class_ 78), (0, u "java/util/Collection")] 81

def k5c0 : Code := { maxStack := 1, maxLocals := 1, code := jdk_22_method_1_code, exceptionTable := #[], attributes := #[] }
def k5m0 : Method := { name := "<init>", desc := "()V", sig := { parameters := [], returnType := none }, accessFlags := 4, code := some k5c0 }
/-- java/util/AbstractCollection -/
def k5 : Class := { plain "java/util/AbstractCollection" (some 0) with
  accessFlags := 1057
  interfaces := #[4]
  cf := some (fileOf pool5 8 #[] #[{ accessFlags := 4, nameIndex := 5, descriptorIndex := 6, attributes := #[] }] 1057 2 #[77] #[])
  fields := #[]
  methods := #[k5m0]
  instanceTypes := #[]
  staticTypes := #[]
  resolved := Array.replicate 160 none
  statics := none }

def pool6 : Array CpInfo := pool [(8, .class_ 10), (1, u "java/util/SequencedCollection"), (15, .class_ 27), (0, u "java/lang/Object"), (0, .class_ 29), (0, u "java/util/Collection")] 27

/-- java/util/SequencedCollection -/
def k6 : Class := { plain "java/util/SequencedCollection" (some 0) with
  accessFlags := 1537
  interfaces := #[4]
  cf := some (fileOf pool6 8 #[] #[] 1537 26 #[28] #[])
  fields := #[]
  methods := #[]
  instanceTypes := #[]
  staticTypes := #[]
  resolved := Array.replicate 57 none
  statics := none }

def pool7 : Array CpInfo := pool [(8, .class_ 10), (1, u "java/util/List"), (49, u "add"), (3, u "(Ljava/lang/Object;)Z"), (10, u "get"), (0, u "(I)Ljava/lang/Object;"), (2, u "size"), (0, u "()I"), (22, .class_ 104), (0, u "java/lang/Object"), (15, .class_ 121), (0, u "java/util/SequencedCollection")] 129

def k7m0 : Method := { name := "size", desc := "()I", sig := { parameters := [], returnType := some .int }, accessFlags := 1025, code := none }
def k7m1 : Method := { name := "add", desc := "(Ljava/lang/Object;)Z", sig := { parameters := [(.object "java/lang/Object")], returnType := some .boolean }, accessFlags := 1025, code := none }
def k7m2 : Method := { name := "get", desc := "(I)Ljava/lang/Object;", sig := { parameters := [.int], returnType := some (.object "java/lang/Object") }, accessFlags := 1025, code := none }
/-- java/util/List -/
def k7 : Class := { plain "java/util/List" (some 0) with
  accessFlags := 1537
  interfaces := #[6]
  cf := some (fileOf pool7 8 #[] #[{ accessFlags := 1025, nameIndex := 79, descriptorIndex := 80, attributes := #[] }, { accessFlags := 1025, nameIndex := 60, descriptorIndex := 64, attributes := #[] }, { accessFlags := 1025, nameIndex := 75, descriptorIndex := 76, attributes := #[] }] 1537 103 #[120] #[])
  fields := #[]
  methods := #[k7m0, k7m1, k7m2]
  instanceTypes := #[]
  staticTypes := #[]
  resolved := Array.replicate 251 none
  statics := none }

def pool8 : Array CpInfo := pool [(1, .methodref 2 3), (0, .class_ 4), (0, .nameAndType 5 6), (0, u "java/util/AbstractCollection"), (0, u "<init>"), (0, u "()V"), (0, .fieldref 8 9), (0, .class_ 10), (0, .nameAndType 11 12), (0, u "java/util/AbstractList"), (0, u "modCount"), (0, u "I"), (64, .class_ 78), (0, u "java/util/AbstractList$Itr"), (3, .class_ 83), (0, u "java/util/AbstractList$ListItr"), (9, .class_ 94), (0, u "java/util/AbstractList$RandomAccessSubList"), (3, .class_ 99), (0, u "java/util/AbstractList$SubList"), (33, .class_ 134), (0, u "java/util/List"), (73, .class_ 209), (0, u "java/util/AbstractList$SubList$1"), (0, .class_ 211), (0, u "java/util/AbstractList$RandomAccessSpliterator")] 6

def k8c0 : Code := { maxStack := 2, maxLocals := 1, code := jdk_39_method_1_code, exceptionTable := #[], attributes := #[] }
def k8m0 : Method := { name := "<init>", desc := "()V", sig := { parameters := [], returnType := none }, accessFlags := 4, code := some k8c0 }
/-- java/util/AbstractList -/
def k8 : Class := { plain "java/util/AbstractList" (some 5) with
  accessFlags := 1057
  interfaces := #[7]
  cf := some (fileOf pool8 8 #[.nestMembers #[93, 98, 208, 210, 82, 77]] #[{ accessFlags := 4, nameIndex := 5, descriptorIndex := 6, attributes := #[] }] 1057 2 #[133] #[{ accessFlags := 132, nameIndex := 11, descriptorIndex := 12, attributes := #[] }])
  fields := #[{ name := "modCount", type := .int, accessFlags := 132, slot := 0, constantValue := 0 }]
  methods := #[k8m0]
  instanceTypes := #[.int]
  staticTypes := #[]
  resolved := Array.replicate 218 none
  statics := none }

def pool9 : Array CpInfo := pool [(1, .class_ 2), (0, u "java/util/RandomAccess"), (0, .class_ 4), (0, u "java/lang/Object")] 2

/-- java/util/RandomAccess -/
def k9 : Class := { plain "java/util/RandomAccess" (some 0) with
  accessFlags := 1537
  interfaces := #[]
  cf := some (fileOf pool9 1 #[] #[] 1537 3 #[] #[])
  fields := #[]
  methods := #[]
  instanceTypes := #[]
  staticTypes := #[]
  resolved := Array.replicate 7 none
  statics := none }

def pool10 : Array CpInfo := pool [(1, .class_ 2), (0, u "java/lang/Cloneable"), (0, .class_ 4), (0, u "java/lang/Object")] 2

/-- java/lang/Cloneable -/
def k10 : Class := { plain "java/lang/Cloneable" (some 0) with
  accessFlags := 1537
  interfaces := #[]
  cf := some (fileOf pool10 1 #[] #[] 1537 3 #[] #[])
  fields := #[]
  methods := #[]
  instanceTypes := #[]
  staticTypes := #[]
  resolved := Array.replicate 7 none
  statics := none }

def pool11 : Array CpInfo := pool [(1, .class_ 2), (0, u "java/io/Serializable"), (0, .class_ 4), (0, u "java/lang/Object")] 2

/-- java/io/Serializable -/
def k11 : Class := { plain "java/io/Serializable" (some 0) with
  accessFlags := 1537
  interfaces := #[]
  cf := some (fileOf pool11 1 #[] #[] 1537 3 #[] #[])
  fields := #[]
  methods := #[]
  instanceTypes := #[]
  staticTypes := #[]
  resolved := Array.replicate 7 none
  statics := none }

def pool12 : Array CpInfo := pool [(1, .methodref 2 3), (0, .class_ 4), (0, .nameAndType 5 6), (0, u "java/util/AbstractList"), (0, u "<init>"), (0, u "()V"), (0, .class_ 8), (0, u "java/lang/Object"), (0, .fieldref 10 11), (0, .class_ 12), (0, .nameAndType 13 14), (0, u "java/util/ArrayList"), (0, u "elementData"), (0, u "[Ljava/lang/Object;"), (2, u "EMPTY_ELEMENTDATA"), (21, .fieldref 10 40), (0, .nameAndType 41 14), (0, u "DEFAULTCAPACITY_EMPTY_ELEMENTDATA"), (5, u "()[Ljava/lang/Object;"), (0, .fieldref 10 49), (0, .nameAndType 50 51), (0, u "size"), (0, u "I"), (11, .fieldref 10 64), (0, .nameAndType 65 51), (0, u "modCount"), (3, .methodref 10 70), (0, .nameAndType 71 72), (0, u "grow"), (0, u "(I)[Ljava/lang/Object;"), (6, .methodref 80 81), (0, .class_ 82), (0, .nameAndType 83 84), (0, u "java/lang/Math"), (0, u "max"), (0, u "(II)I"), (11, u "(Ljava/lang/Object;)Z"), (21, .methodref 119 120), (0, .class_ 121), (0, .nameAndType 122 84), (0, u "java/util/Objects"), (0, u "checkIndex"), (0, .methodref 10 124), (0, .nameAndType 13 125), (0, u "(I)Ljava/lang/Object;"), (3, .methodref 10 130), (0, .nameAndType 71 47), (0, .methodref 10 132), (0, .nameAndType 133 134), (0, u "add"), (0, u "(Ljava/lang/Object;[Ljava/lang/Object;I)V"), (13, .class_ 149), (0, u "java/util/List"), (36, u "()I"), (75, .class_ 263), (0, u "java/util/ArrayList$ListItr"), (3, .class_ 268), (0, u "java/util/ArrayList$Itr"), (7, .class_ 277), (0, u "java/util/ArrayList$SubList"), (12, .class_ 291), (0, u "java/util/ArrayList$ArrayListSpliterator"), (37, .class_ 330), (0, u "java/util/RandomAccess"), (0, .class_ 332), (0, u "java/lang/Cloneable"), (0, .class_ 334), (0, u "java/io/Serializable"), (0, u "serialVersionUID"), (0, u "J"), (3, u "DEFAULT_CAPACITY"), (40, u "get"), (118, .class_ 501), (0, u "java/util/ArrayList$SubList$2"), (0, .class_ 503), (0, u "java/util/ArrayList$SubList$1")] 5

def k12c0 : Code := { maxStack := 2, maxLocals := 1, code := jdk_38_method_2_code, exceptionTable := #[], attributes := #[] }
def k12m0 : Method := { name := "<init>", desc := "()V", sig := { parameters := [], returnType := none }, accessFlags := 1, code := some k12c0 }
def k12c1 : Code := { maxStack := 4, maxLocals := 4, code := jdk_38_method_6_code, exceptionTable := #[], attributes := #[] }
def k12m1 : Method := { name := "grow", desc := "(I)[Ljava/lang/Object;", sig := { parameters := [.int], returnType := some (.array (.object "java/lang/Object")) }, accessFlags := 2, code := some k12c1 }
def k12c2 : Code := { maxStack := 3, maxLocals := 1, code := jdk_38_method_7_code, exceptionTable := #[], attributes := #[] }
def k12m2 : Method := { name := "grow", desc := "()[Ljava/lang/Object;", sig := { parameters := [], returnType := some (.array (.object "java/lang/Object")) }, accessFlags := 2, code := some k12c2 }
def k12c3 : Code := { maxStack := 1, maxLocals := 1, code := jdk_38_method_8_code, exceptionTable := #[], attributes := #[] }
def k12m3 : Method := { name := "size", desc := "()I", sig := { parameters := [], returnType := some .int }, accessFlags := 1, code := some k12c3 }
def k12c4 : Code := { maxStack := 2, maxLocals := 2, code := jdk_38_method_18_code, exceptionTable := #[], attributes := #[] }
def k12m4 : Method := { name := "elementData", desc := "(I)Ljava/lang/Object;", sig := { parameters := [.int], returnType := some (.object "java/lang/Object") }, accessFlags := 0, code := some k12c4 }
def k12c5 : Code := { maxStack := 2, maxLocals := 2, code := jdk_38_method_20_code, exceptionTable := #[], attributes := #[] }
def k12m5 : Method := { name := "get", desc := "(I)Ljava/lang/Object;", sig := { parameters := [.int], returnType := some (.object "java/lang/Object") }, accessFlags := 1, code := some k12c5 }
def k12c6 : Code := { maxStack := 3, maxLocals := 4, code := jdk_38_method_24_code, exceptionTable := #[], attributes := #[] }
def k12m6 : Method := { name := "add", desc := "(Ljava/lang/Object;[Ljava/lang/Object;I)V", sig := { parameters := [(.object "java/lang/Object"), (.array (.object "java/lang/Object")), .int], returnType := none }, accessFlags := 2, code := some k12c6 }
def k12c7 : Code := { maxStack := 4, maxLocals := 2, code := jdk_38_method_25_code, exceptionTable := #[], attributes := #[] }
def k12m7 : Method := { name := "add", desc := "(Ljava/lang/Object;)Z", sig := { parameters := [(.object "java/lang/Object")], returnType := some .boolean }, accessFlags := 1, code := some k12c7 }
/-- java/util/ArrayList -/
def k12 : Class := { plain "java/util/ArrayList" (some 8) with
  accessFlags := 33
  interfaces := #[7, 9, 10, 11]
  cf := some (fileOf pool12 10 #[.nestMembers #[290, 276, 500, 502, 262, 267]] #[{ accessFlags := 1, nameIndex := 5, descriptorIndex := 6, attributes := #[] }, { accessFlags := 2, nameIndex := 71, descriptorIndex := 72, attributes := #[] }, { accessFlags := 2, nameIndex := 71, descriptorIndex := 47, attributes := #[] }, { accessFlags := 1, nameIndex := 50, descriptorIndex := 186, attributes := #[] }, { accessFlags := 0, nameIndex := 13, descriptorIndex := 125, attributes := #[] }, { accessFlags := 1, nameIndex := 381, descriptorIndex := 125, attributes := #[] }, { accessFlags := 2, nameIndex := 133, descriptorIndex := 134, attributes := #[] }, { accessFlags := 1, nameIndex := 133, descriptorIndex := 96, attributes := #[] }] 33 2 #[148, 329, 331, 333] #[{ accessFlags := 26, nameIndex := 335, descriptorIndex := 336, attributes := #[] }, { accessFlags := 26, nameIndex := 340, descriptorIndex := 51, attributes := #[] }, { accessFlags := 26, nameIndex := 17, descriptorIndex := 14, attributes := #[] }, { accessFlags := 26, nameIndex := 41, descriptorIndex := 14, attributes := #[] }, { accessFlags := 128, nameIndex := 13, descriptorIndex := 14, attributes := #[] }, { accessFlags := 2, nameIndex := 50, descriptorIndex := 51, attributes := #[] }])
  fields := #[{ name := "serialVersionUID", type := .long, accessFlags := 26, slot := 0, constantValue := 0 }, { name := "DEFAULT_CAPACITY", type := .int, accessFlags := 26, slot := 1, constantValue := 0 }, { name := "EMPTY_ELEMENTDATA", type := (.array (.object "java/lang/Object")), accessFlags := 26, slot := 2, constantValue := 0 }, { name := "DEFAULTCAPACITY_EMPTY_ELEMENTDATA", type := (.array (.object "java/lang/Object")), accessFlags := 26, slot := 3, constantValue := 0 }, { name := "elementData", type := (.array (.object "java/lang/Object")), accessFlags := 128, slot := 1, constantValue := 0 }, { name := "size", type := .int, accessFlags := 2, slot := 2, constantValue := 0 }]
  methods := #[k12m0, k12m1, k12m2, k12m3, k12m4, k12m5, k12m6, k12m7]
  instanceTypes := #[.int, (.array (.object "java/lang/Object")), .int]
  staticTypes := #[.long, .int, (.array (.object "java/lang/Object")), (.array (.object "java/lang/Object"))]
  resolved := Array.replicate 509 none
  statics := some 0 }

def pool13 : Array CpInfo := pool [(1, .methodref 2 3), (0, .class_ 4), (0, .nameAndType 5 6), (0, u "java/lang/Object"), (0, u "<init>"), (0, u "()V"), (1, .class_ 10), (1, u "java/lang/Number"), (2, .class_ 14), (0, u "java/io/Serializable"), (0, u "serialVersionUID"), (0, u "J")] 20

def k13c0 : Code := { maxStack := 1, maxLocals := 1, code := jdk_18_method_1_code, exceptionTable := #[], attributes := #[] }
def k13m0 : Method := { name := "<init>", desc := "()V", sig := { parameters := [], returnType := none }, accessFlags := 1, code := some k13c0 }
/-- java/lang/Number -/
def k13 : Class := { plain "java/lang/Number" (some 0) with
  accessFlags := 1057
  interfaces := #[11]
  cf := some (fileOf pool13 8 #[] #[{ accessFlags := 1, nameIndex := 5, descriptorIndex := 6, attributes := #[] }] 1057 2 #[13] #[{ accessFlags := 26, nameIndex := 15, descriptorIndex := 16, attributes := #[] }])
  fields := #[{ name := "serialVersionUID", type := .long, accessFlags := 26, slot := 0, constantValue := 0 }]
  methods := #[k13m0]
  instanceTypes := #[]
  staticTypes := #[.long]
  resolved := Array.replicate 37 none
  statics := none }

def pool14 : Array CpInfo := pool [(1, .class_ 2), (0, u "java/lang/Comparable"), (0, .class_ 4), (0, u "java/lang/Object")] 7

/-- java/lang/Comparable -/
def k14 : Class := { plain "java/lang/Comparable" (some 0) with
  accessFlags := 1537
  interfaces := #[]
  cf := some (fileOf pool14 1 #[] #[] 1537 3 #[] #[])
  fields := #[]
  methods := #[]
  instanceTypes := #[]
  staticTypes := #[]
  resolved := Array.replicate 12 none
  statics := none }

def pool15 : Array CpInfo := pool [(1, .class_ 2), (0, u "java/lang/constant/Constable"), (0, .class_ 4), (0, u "java/lang/Object")] 6

/-- java/lang/constant/Constable -/
def k15 : Class := { plain "java/lang/constant/Constable" (some 0) with
  accessFlags := 1537
  interfaces := #[]
  cf := some (fileOf pool15 1 #[] #[] 1537 3 #[] #[])
  fields := #[]
  methods := #[]
  instanceTypes := #[]
  staticTypes := #[]
  resolved := Array.replicate 11 none
  statics := none }

def pool16 : Array CpInfo := pool [(1, .class_ 2), (0, u "java/lang/constant/ConstantDesc"), (0, .class_ 4), (0, u "java/lang/Object")] 32

/-- java/lang/constant/ConstantDesc -/
def k16 : Class := { plain "java/lang/constant/ConstantDesc" (some 0) with
  accessFlags := 1537
  interfaces := #[]
  cf := some (fileOf pool16 1 #[] #[] 1537 3 #[] #[])
  fields := #[]
  methods := #[]
  instanceTypes := #[]
  staticTypes := #[]
  resolved := Array.replicate 37 none
  statics := none }

def pool17 : Array CpInfo := pool [(1, .class_ 2), (0, u "java/lang/Long"), (55, .nameAndType 59 60), (0, u "<init>"), (0, u "()V"), (24, u "valueOf"), (143, u "(J)Ljava/lang/Long;"), (0, .long 18446744073709551488), (1, .long 127), (1, .fieldref 235 236), (0, .class_ 237), (0, .nameAndType 238 239), (0, u "java/lang/Long$LongCache"), (0, u "cache"), (0, u "[Ljava/lang/Long;"), (0, .methodref 1 241), (0, .nameAndType 59 242), (0, u "(J)V"), (27, .methodref 271 58), (0, .class_ 272), (0, u "java/lang/Number"), (0, .fieldref 1 274), (0, .nameAndType 275 276), (0, u "value"), (0, u "J"), (5, u "longValue"), (0, u "()J"), (77, u "TYPE"), (0, u "Ljava/lang/Class;"), (0, .class_ 364), (0, u "java/lang/Comparable"), (0, .class_ 366), (0, u "java/lang/constant/Constable"), (0, .class_ 368), (0, u "java/lang/constant/ConstantDesc"), (0, u "MIN_VALUE"), (1, u "MAX_VALUE"), (4, u "SIZE"), (0, u "I"), (1, u "BYTES"), (1, u "serialVersionUID")] 142

def k17c0 : Code := { maxStack := 4, maxLocals := 3, code := jdk_35_method_24_code, exceptionTable := #[], attributes := #[] }
def k17m0 : Method := { name := "valueOf", desc := "(J)Ljava/lang/Long;", sig := { parameters := [.long], returnType := some (.object "java/lang/Long") }, accessFlags := 9, code := some k17c0 }
def k17c1 : Code := { maxStack := 3, maxLocals := 3, code := jdk_35_method_26_code, exceptionTable := #[], attributes := #[] }
def k17m1 : Method := { name := "<init>", desc := "(J)V", sig := { parameters := [.long], returnType := none }, accessFlags := 1, code := some k17c1 }
def k17c2 : Code := { maxStack := 2, maxLocals := 1, code := jdk_35_method_31_code, exceptionTable := #[], attributes := #[] }
def k17m2 : Method := { name := "longValue", desc := "()J", sig := { parameters := [], returnType := some .long }, accessFlags := 1, code := some k17c2 }
/-- java/lang/Long -/
def k17 : Class := { plain "java/lang/Long" (some 13) with
  accessFlags := 49
  interfaces := #[14, 15, 16]
  cf := some (fileOf pool17 1 #[.nestMembers #[235]] #[{ accessFlags := 9, nameIndex := 85, descriptorIndex := 229, attributes := #[] }, { accessFlags := 1, nameIndex := 59, descriptorIndex := 242, attributes := #[] }, { accessFlags := 1, nameIndex := 282, descriptorIndex := 283, attributes := #[] }] 49 271 #[363, 365, 367] #[{ accessFlags := 25, nameIndex := 369, descriptorIndex := 276, attributes := #[] }, { accessFlags := 25, nameIndex := 371, descriptorIndex := 276, attributes := #[] }, { accessFlags := 25, nameIndex := 361, descriptorIndex := 362, attributes := #[] }, { accessFlags := 18, nameIndex := 275, descriptorIndex := 276, attributes := #[] }, { accessFlags := 25, nameIndex := 376, descriptorIndex := 377, attributes := #[] }, { accessFlags := 25, nameIndex := 379, descriptorIndex := 377, attributes := #[] }, { accessFlags := 26, nameIndex := 381, descriptorIndex := 276, attributes := #[] }])
  fields := #[{ name := "MIN_VALUE", type := .long, accessFlags := 25, slot := 0, constantValue := 0 }, { name := "MAX_VALUE", type := .long, accessFlags := 25, slot := 1, constantValue := 0 }, { name := "TYPE", type := (.object "java/lang/Class"), accessFlags := 25, slot := 2, constantValue := 0 }, { name := "value", type := .long, accessFlags := 18, slot := 0, constantValue := 0 }, { name := "SIZE", type := .int, accessFlags := 25, slot := 3, constantValue := 0 }, { name := "BYTES", type := .int, accessFlags := 25, slot := 4, constantValue := 0 }, { name := "serialVersionUID", type := .long, accessFlags := 26, slot := 5, constantValue := 0 }]
  methods := #[k17m0, k17m1, k17m2]
  instanceTypes := #[.long]
  staticTypes := #[.long, .long, (.object "java/lang/Class"), .int, .int, .long]
  resolved := Array.replicate 524 none
  statics := none }

def pool18 : Array CpInfo := pool [(1, .class_ 2), (0, u "java/lang/Math"), (1, .class_ 6), (1, u "java/lang/Object"), (0, u "<init>"), (0, u "()V"), (89, .class_ 100), (1, u "java/lang/Math$RandomNumberGeneratorHolder"), (71, u "negativeZeroFloatBits"), (0, u "J"), (2, u "negativeZeroDoubleBits"), (21, u "max"), (46, u "$assertionsDisabled"), (0, u "Z"), (88, u "(II)I"), (2, u "twoToTheDoubleScaleDown"), (0, u "D"), (4, u "twoToTheDoubleScaleUp"), (9, u "E"), (3, u "PI"), (2, u "TAU"), (2, u "DEGREES_TO_RADIANS"), (0, u "RADIANS_TO_DEGREES")] 94

def k18m0 : Method := { name := "<init>", desc := "()V", sig := { parameters := [], returnType := none }, accessFlags := 2, code := none }
def k18c1 : Code := { maxStack := 2, maxLocals := 2, code := jdk_29_method_65_code, exceptionTable := #[], attributes := #[] }
def k18m1 : Method := { name := "max", desc := "(II)I", sig := { parameters := [.int, .int], returnType := some .int }, accessFlags := 9, code := some k18c1 }
/-- java/lang/Math -/
def k18 : Class := { plain "java/lang/Math" (some 0) with
  accessFlags := 49
  interfaces := #[]
  cf := some (fileOf pool18 1 #[.nestMembers #[98]] #[{ accessFlags := 2, nameIndex := 7, descriptorIndex := 8, attributes := #[] }, { accessFlags := 9, nameIndex := 198, descriptorIndex := 335, attributes := #[] }] 49 4 #[] #[{ accessFlags := 25, nameIndex := 354, descriptorIndex := 339, attributes := #[] }, { accessFlags := 25, nameIndex := 358, descriptorIndex := 339, attributes := #[] }, { accessFlags := 25, nameIndex := 361, descriptorIndex := 339, attributes := #[] }, { accessFlags := 26, nameIndex := 364, descriptorIndex := 339, attributes := #[] }, { accessFlags := 26, nameIndex := 365, descriptorIndex := 339, attributes := #[] }, { accessFlags := 26, nameIndex := 172, descriptorIndex := 173, attributes := #[] }, { accessFlags := 26, nameIndex := 176, descriptorIndex := 173, attributes := #[] }, { accessFlags := 8, nameIndex := 344, descriptorIndex := 339, attributes := #[] }, { accessFlags := 8, nameIndex := 338, descriptorIndex := 339, attributes := #[] }, { accessFlags := 4120, nameIndex := 245, descriptorIndex := 246, attributes := #[] }])
  fields := #[{ name := "E", type := .double, accessFlags := 25, slot := 0, constantValue := 0 }, { name := "PI", type := .double, accessFlags := 25, slot := 1, constantValue := 0 }, { name := "TAU", type := .double, accessFlags := 25, slot := 2, constantValue := 0 }, { name := "DEGREES_TO_RADIANS", type := .double, accessFlags := 26, slot := 3, constantValue := 0 }, { name := "RADIANS_TO_DEGREES", type := .double, accessFlags := 26, slot := 4, constantValue := 0 }, { name := "negativeZeroFloatBits", type := .long, accessFlags := 26, slot := 5, constantValue := 0 }, { name := "negativeZeroDoubleBits", type := .long, accessFlags := 26, slot := 6, constantValue := 0 }, { name := "twoToTheDoubleScaleUp", type := .double, accessFlags := 8, slot := 7, constantValue := 0 }, { name := "twoToTheDoubleScaleDown", type := .double, accessFlags := 8, slot := 8, constantValue := 0 }, { name := "$assertionsDisabled", type := .boolean, accessFlags := 4120, slot := 9, constantValue := 0 }]
  methods := #[k18m0, k18m1]
  instanceTypes := #[]
  staticTypes := #[.double, .double, .double, .double, .double, .long, .long, .double, .double, .boolean]
  resolved := Array.replicate 460 none
  statics := none }

def pool19 : Array CpInfo := pool [(2, .class_ 4), (1, u "java/lang/Object"), (0, u "<init>"), (0, u "()V"), (35, .class_ 44), (1, u "java/util/Objects"), (60, .methodref 106 107), (0, .class_ 108), (0, .nameAndType 109 110), (0, u "jdk/internal/util/Preconditions"), (0, u "checkIndex"), (0, u "(IILjava/util/function/BiFunction;)I"), (60, u "(II)I")] 12

def k19m0 : Method := { name := "<init>", desc := "()V", sig := { parameters := [], returnType := none }, accessFlags := 2, code := none }
def k19c1 : Code := { maxStack := 3, maxLocals := 2, code := jdk_31_method_17_code, exceptionTable := #[], attributes := #[] }
def k19m1 : Method := { name := "checkIndex", desc := "(II)I", sig := { parameters := [.int, .int], returnType := some .int }, accessFlags := 9, code := some k19c1 }
/-- java/util/Objects -/
def k19 : Class := { plain "java/util/Objects" (some 0) with
  accessFlags := 49
  interfaces := #[]
  cf := some (fileOf pool19 42 #[] #[{ accessFlags := 2, nameIndex := 5, descriptorIndex := 6, attributes := #[] }, { accessFlags := 9, nameIndex := 109, descriptorIndex := 171, attributes := #[] }] 49 2 #[] #[])
  fields := #[]
  methods := #[k19m0, k19m1]
  instanceTypes := #[]
  staticTypes := #[]
  resolved := Array.replicate 184 none
  statics := none }

def pool20 : Array CpInfo := pool [(2, .class_ 4), (1, u "java/lang/Object"), (0, u "<init>"), (0, u "()V"), (17, .class_ 26), (1, u "jdk/internal/util/Preconditions"), (6, u "checkIndex"), (21, .class_ 56), (0, u "jdk/internal/util/Preconditions$4"), (57, .class_ 115), (0, u "jdk/internal/util/Preconditions$1"), (7, u "SIOOBE_FORMATTER"), (0, u "Ljava/util/function/BiFunction;"), (0, .class_ 126), (0, u "jdk/internal/util/Preconditions$2"), (3, u "AIOOBE_FORMATTER"), (0, .class_ 132), (0, u "jdk/internal/util/Preconditions$3"), (3, u "IOOBE_FORMATTER"), (41, u "(IILjava/util/function/BiFunction;)I")] 15

def k20m0 : Method := { name := "<init>", desc := "()V", sig := { parameters := [], returnType := none }, accessFlags := 1, code := none }
def k20c1 : Code := { maxStack := 3, maxLocals := 3, code := jdk_41_method_11_code, exceptionTable := #[], attributes := #[] }
def k20m1 : Method := { name := "checkIndex", desc := "(IILjava/util/function/BiFunction;)I", sig := { parameters := [.int, .int, (.object "java/util/function/BiFunction")], returnType := some .int }, accessFlags := 9, code := some k20c1 }
/-- jdk/internal/util/Preconditions -/
def k20 : Class := { plain "jdk/internal/util/Preconditions" (some 0) with
  accessFlags := 33
  interfaces := #[]
  cf := some (fileOf pool20 24 #[.nestMembers #[55, 131, 125, 114]] #[{ accessFlags := 1, nameIndex := 5, descriptorIndex := 6, attributes := #[] }, { accessFlags := 9, nameIndex := 33, descriptorIndex := 178, attributes := #[] }] 33 2 #[] #[{ accessFlags := 25, nameIndex := 123, descriptorIndex := 124, attributes := #[] }, { accessFlags := 25, nameIndex := 130, descriptorIndex := 124, attributes := #[] }, { accessFlags := 25, nameIndex := 136, descriptorIndex := 124, attributes := #[] }])
  fields := #[{ name := "SIOOBE_FORMATTER", type := (.object "java/util/function/BiFunction"), accessFlags := 25, slot := 0, constantValue := 0 }, { name := "AIOOBE_FORMATTER", type := (.object "java/util/function/BiFunction"), accessFlags := 25, slot := 1, constantValue := 0 }, { name := "IOOBE_FORMATTER", type := (.object "java/util/function/BiFunction"), accessFlags := 25, slot := 2, constantValue := 0 }]
  methods := #[k20m0, k20m1]
  instanceTypes := #[]
  staticTypes := #[(.object "java/util/function/BiFunction"), (.object "java/util/function/BiFunction"), (.object "java/util/function/BiFunction")]
  resolved := Array.replicate 194 none
  statics := none }

def pool21 : Array CpInfo := pool [(2, .class_ 4), (1, u "java/lang/Object"), (0, u "<init>"), (0, u "()V"), (0, .class_ 8), (0, u "java/lang/Long"), (7, .class_ 18), (1, u "java/lang/Long$LongCache"), (0, u "$assertionsDisabled"), (0, u "Z"), (8, u "archivedCache"), (0, u "[Ljava/lang/Long;"), (7, u "cache")] 24

def k21m0 : Method := { name := "<init>", desc := "()V", sig := { parameters := [], returnType := none }, accessFlags := 2, code := none }
/-- java/lang/Long$LongCache -/
def k21 : Class := { plain "java/lang/Long$LongCache" (some 0) with
  accessFlags := 48
  interfaces := #[]
  cf := some (fileOf pool21 16 #[.nestHost 7] #[{ accessFlags := 2, nameIndex := 5, descriptorIndex := 6, attributes := #[] }] 48 2 #[] #[{ accessFlags := 24, nameIndex := 38, descriptorIndex := 30, attributes := #[] }, { accessFlags := 8, nameIndex := 29, descriptorIndex := 30, attributes := #[] }, { accessFlags := 4120, nameIndex := 19, descriptorIndex := 20, attributes := #[] }])
  fields := #[{ name := "cache", type := (.array (.object "java/lang/Long")), accessFlags := 24, slot := 0, constantValue := 0 }, { name := "archivedCache", type := (.array (.object "java/lang/Long")), accessFlags := 8, slot := 1, constantValue := 0 }, { name := "$assertionsDisabled", type := .boolean, accessFlags := 4120, slot := 2, constantValue := 0 }]
  methods := #[k21m0]
  instanceTypes := #[]
  staticTypes := #[(.array (.object "java/lang/Long")), (.array (.object "java/lang/Long")), .boolean]
  resolved := Array.replicate 63 none
  statics := some 1 }

/-- the primitive byte -/
def k22 : Class := { plain "byte" none with kind := .primitive 'B', accessFlags := 0x411 }
/-- [B -/
def k23 : Class := { plain "[B" (some 0) with kind := .array 22 .byte, interfaces := #[10, 11], accessFlags := 1041 }

/-- the primitive int -/
def k24 : Class := { plain "int" none with kind := .primitive 'I', accessFlags := 0x411 }
/-- [I -/
def k25 : Class := { plain "[I" (some 0) with kind := .array 24 .int, interfaces := #[10, 11], accessFlags := 1041 }

/-- the primitive long -/
def k26 : Class := { plain "long" none with kind := .primitive 'J', accessFlags := 0x411 }
/-- [J -/
def k27 : Class := { plain "[J" (some 0) with kind := .array 26 .long, interfaces := #[10, 11], accessFlags := 1041 }

/-- [Ljava/lang/Long; -/
def k28 : Class := { plain "[Ljava/lang/Long;" (some 0) with kind := .array 17 (.object "java/lang/Long"), interfaces := #[10, 11], accessFlags := 1041 }

/-- [Ljava/lang/Object; -/
def k29 : Class := { plain "[Ljava/lang/Object;" (some 0) with kind := .array 0 (.object "java/lang/Object"), interfaces := #[10, 11], accessFlags := 1041 }

def heap : Heap := #[{ cls := 12, slots := #[.long 0, .int 0, .ref 2, .ref 3], vm := .statics 12 },
  { cls := 21, slots := #[.ref 4, .null, .int 0], vm := .statics 21 },
  { cls := 29, slots := #[], vm := .none },
  { cls := 29, slots := #[], vm := .none },
  { cls := 28, slots := #[.ref 5, .ref 6, .ref 7, .ref 8, .ref 9, .ref 10, .ref 11, .ref 12, .ref 13, .ref 14, .ref 15, .ref 16, .ref 17, .ref 18, .ref 19, .ref 20, .ref 21, .ref 22, .ref 23, .ref 24, .ref 25, .ref 26, .ref 27, .ref 28, .ref 29, .ref 30, .ref 31, .ref 32, .ref 33, .ref 34, .ref 35, .ref 36, .ref 37, .ref 38, .ref 39, .ref 40, .ref 41, .ref 42, .ref 43, .ref 44, .ref 45, .ref 46, .ref 47, .ref 48, .ref 49, .ref 50, .ref 51, .ref 52, .ref 53, .ref 54, .ref 55, .ref 56, .ref 57, .ref 58, .ref 59, .ref 60, .ref 61, .ref 62, .ref 63, .ref 64, .ref 65, .ref 66, .ref 67, .ref 68, .ref 69, .ref 70, .ref 71, .ref 72, .ref 73, .ref 74, .ref 75, .ref 76, .ref 77, .ref 78, .ref 79, .ref 80, .ref 81, .ref 82, .ref 83, .ref 84, .ref 85, .ref 86, .ref 87, .ref 88, .ref 89, .ref 90, .ref 91, .ref 92, .ref 93, .ref 94, .ref 95, .ref 96, .ref 97, .ref 98, .ref 99, .ref 100, .ref 101, .ref 102, .ref 103, .ref 104, .ref 105, .ref 106, .ref 107, .ref 108, .ref 109, .ref 110, .ref 111, .ref 112, .ref 113, .ref 114, .ref 115, .ref 116, .ref 117, .ref 118, .ref 119, .ref 120, .ref 121, .ref 122, .ref 123, .ref 124, .ref 125, .ref 126, .ref 127, .ref 128, .ref 129, .ref 130, .ref 131, .ref 132, .ref 133, .ref 134, .ref 135, .ref 136, .ref 137, .ref 138, .ref 139, .ref 140, .ref 141, .ref 142, .ref 143, .ref 144, .ref 145, .ref 146, .ref 147, .ref 148, .ref 149, .ref 150, .ref 151, .ref 152, .ref 153, .ref 154, .ref 155, .ref 156, .ref 157, .ref 158, .ref 159, .ref 160, .ref 161, .ref 162, .ref 163, .ref 164, .ref 165, .ref 166, .ref 167, .ref 168, .ref 169, .ref 170, .ref 171, .ref 172, .ref 173, .ref 174, .ref 175, .ref 176, .ref 177, .ref 178, .ref 179, .ref 180, .ref 181, .ref 182, .ref 183, .ref 184, .ref 185, .ref 186, .ref 187, .ref 188, .ref 189, .ref 190, .ref 191, .ref 192, .ref 193, .ref 194, .ref 195, .ref 196, .ref 197, .ref 198, .ref 199, .ref 200, .ref 201, .ref 202, .ref 203, .ref 204, .ref 205, .ref 206, .ref 207, .ref 208, .ref 209, .ref 210, .ref 211, .ref 212, .ref 213, .ref 214, .ref 215, .ref 216, .ref 217, .ref 218, .ref 219, .ref 220, .ref 221, .ref 222, .ref 223, .ref 224, .ref 225, .ref 226, .ref 227, .ref 228, .ref 229, .ref 230, .ref 231, .ref 232, .ref 233, .ref 234, .ref 235, .ref 236, .ref 237, .ref 238, .ref 239, .ref 240, .ref 241, .ref 242, .ref 243, .ref 244, .ref 245, .ref 246, .ref 247, .ref 248, .ref 249, .ref 250, .ref 251, .ref 252, .ref 253, .ref 254, .ref 255, .ref 256, .ref 257, .ref 258, .ref 259, .ref 260], vm := .none },
  { cls := 17, slots := #[.long (-128)], vm := .none },
  { cls := 17, slots := #[.long (-127)], vm := .none },
  { cls := 17, slots := #[.long (-126)], vm := .none },
  { cls := 17, slots := #[.long (-125)], vm := .none },
  { cls := 17, slots := #[.long (-124)], vm := .none },
  { cls := 17, slots := #[.long (-123)], vm := .none },
  { cls := 17, slots := #[.long (-122)], vm := .none },
  { cls := 17, slots := #[.long (-121)], vm := .none },
  { cls := 17, slots := #[.long (-120)], vm := .none },
  { cls := 17, slots := #[.long (-119)], vm := .none },
  { cls := 17, slots := #[.long (-118)], vm := .none },
  { cls := 17, slots := #[.long (-117)], vm := .none },
  { cls := 17, slots := #[.long (-116)], vm := .none },
  { cls := 17, slots := #[.long (-115)], vm := .none },
  { cls := 17, slots := #[.long (-114)], vm := .none },
  { cls := 17, slots := #[.long (-113)], vm := .none },
  { cls := 17, slots := #[.long (-112)], vm := .none },
  { cls := 17, slots := #[.long (-111)], vm := .none },
  { cls := 17, slots := #[.long (-110)], vm := .none },
  { cls := 17, slots := #[.long (-109)], vm := .none },
  { cls := 17, slots := #[.long (-108)], vm := .none },
  { cls := 17, slots := #[.long (-107)], vm := .none },
  { cls := 17, slots := #[.long (-106)], vm := .none },
  { cls := 17, slots := #[.long (-105)], vm := .none },
  { cls := 17, slots := #[.long (-104)], vm := .none },
  { cls := 17, slots := #[.long (-103)], vm := .none },
  { cls := 17, slots := #[.long (-102)], vm := .none },
  { cls := 17, slots := #[.long (-101)], vm := .none },
  { cls := 17, slots := #[.long (-100)], vm := .none },
  { cls := 17, slots := #[.long (-99)], vm := .none },
  { cls := 17, slots := #[.long (-98)], vm := .none },
  { cls := 17, slots := #[.long (-97)], vm := .none },
  { cls := 17, slots := #[.long (-96)], vm := .none },
  { cls := 17, slots := #[.long (-95)], vm := .none },
  { cls := 17, slots := #[.long (-94)], vm := .none },
  { cls := 17, slots := #[.long (-93)], vm := .none },
  { cls := 17, slots := #[.long (-92)], vm := .none },
  { cls := 17, slots := #[.long (-91)], vm := .none },
  { cls := 17, slots := #[.long (-90)], vm := .none },
  { cls := 17, slots := #[.long (-89)], vm := .none },
  { cls := 17, slots := #[.long (-88)], vm := .none },
  { cls := 17, slots := #[.long (-87)], vm := .none },
  { cls := 17, slots := #[.long (-86)], vm := .none },
  { cls := 17, slots := #[.long (-85)], vm := .none },
  { cls := 17, slots := #[.long (-84)], vm := .none },
  { cls := 17, slots := #[.long (-83)], vm := .none },
  { cls := 17, slots := #[.long (-82)], vm := .none },
  { cls := 17, slots := #[.long (-81)], vm := .none },
  { cls := 17, slots := #[.long (-80)], vm := .none },
  { cls := 17, slots := #[.long (-79)], vm := .none },
  { cls := 17, slots := #[.long (-78)], vm := .none },
  { cls := 17, slots := #[.long (-77)], vm := .none },
  { cls := 17, slots := #[.long (-76)], vm := .none },
  { cls := 17, slots := #[.long (-75)], vm := .none },
  { cls := 17, slots := #[.long (-74)], vm := .none },
  { cls := 17, slots := #[.long (-73)], vm := .none },
  { cls := 17, slots := #[.long (-72)], vm := .none },
  { cls := 17, slots := #[.long (-71)], vm := .none },
  { cls := 17, slots := #[.long (-70)], vm := .none },
  { cls := 17, slots := #[.long (-69)], vm := .none },
  { cls := 17, slots := #[.long (-68)], vm := .none },
  { cls := 17, slots := #[.long (-67)], vm := .none },
  { cls := 17, slots := #[.long (-66)], vm := .none },
  { cls := 17, slots := #[.long (-65)], vm := .none },
  { cls := 17, slots := #[.long (-64)], vm := .none },
  { cls := 17, slots := #[.long (-63)], vm := .none },
  { cls := 17, slots := #[.long (-62)], vm := .none },
  { cls := 17, slots := #[.long (-61)], vm := .none },
  { cls := 17, slots := #[.long (-60)], vm := .none },
  { cls := 17, slots := #[.long (-59)], vm := .none },
  { cls := 17, slots := #[.long (-58)], vm := .none },
  { cls := 17, slots := #[.long (-57)], vm := .none },
  { cls := 17, slots := #[.long (-56)], vm := .none },
  { cls := 17, slots := #[.long (-55)], vm := .none },
  { cls := 17, slots := #[.long (-54)], vm := .none },
  { cls := 17, slots := #[.long (-53)], vm := .none },
  { cls := 17, slots := #[.long (-52)], vm := .none },
  { cls := 17, slots := #[.long (-51)], vm := .none },
  { cls := 17, slots := #[.long (-50)], vm := .none },
  { cls := 17, slots := #[.long (-49)], vm := .none },
  { cls := 17, slots := #[.long (-48)], vm := .none },
  { cls := 17, slots := #[.long (-47)], vm := .none },
  { cls := 17, slots := #[.long (-46)], vm := .none },
  { cls := 17, slots := #[.long (-45)], vm := .none },
  { cls := 17, slots := #[.long (-44)], vm := .none },
  { cls := 17, slots := #[.long (-43)], vm := .none },
  { cls := 17, slots := #[.long (-42)], vm := .none },
  { cls := 17, slots := #[.long (-41)], vm := .none },
  { cls := 17, slots := #[.long (-40)], vm := .none },
  { cls := 17, slots := #[.long (-39)], vm := .none },
  { cls := 17, slots := #[.long (-38)], vm := .none },
  { cls := 17, slots := #[.long (-37)], vm := .none },
  { cls := 17, slots := #[.long (-36)], vm := .none },
  { cls := 17, slots := #[.long (-35)], vm := .none },
  { cls := 17, slots := #[.long (-34)], vm := .none },
  { cls := 17, slots := #[.long (-33)], vm := .none },
  { cls := 17, slots := #[.long (-32)], vm := .none },
  { cls := 17, slots := #[.long (-31)], vm := .none },
  { cls := 17, slots := #[.long (-30)], vm := .none },
  { cls := 17, slots := #[.long (-29)], vm := .none },
  { cls := 17, slots := #[.long (-28)], vm := .none },
  { cls := 17, slots := #[.long (-27)], vm := .none },
  { cls := 17, slots := #[.long (-26)], vm := .none },
  { cls := 17, slots := #[.long (-25)], vm := .none },
  { cls := 17, slots := #[.long (-24)], vm := .none },
  { cls := 17, slots := #[.long (-23)], vm := .none },
  { cls := 17, slots := #[.long (-22)], vm := .none },
  { cls := 17, slots := #[.long (-21)], vm := .none },
  { cls := 17, slots := #[.long (-20)], vm := .none },
  { cls := 17, slots := #[.long (-19)], vm := .none },
  { cls := 17, slots := #[.long (-18)], vm := .none },
  { cls := 17, slots := #[.long (-17)], vm := .none },
  { cls := 17, slots := #[.long (-16)], vm := .none },
  { cls := 17, slots := #[.long (-15)], vm := .none },
  { cls := 17, slots := #[.long (-14)], vm := .none },
  { cls := 17, slots := #[.long (-13)], vm := .none },
  { cls := 17, slots := #[.long (-12)], vm := .none },
  { cls := 17, slots := #[.long (-11)], vm := .none },
  { cls := 17, slots := #[.long (-10)], vm := .none },
  { cls := 17, slots := #[.long (-9)], vm := .none },
  { cls := 17, slots := #[.long (-8)], vm := .none },
  { cls := 17, slots := #[.long (-7)], vm := .none },
  { cls := 17, slots := #[.long (-6)], vm := .none },
  { cls := 17, slots := #[.long (-5)], vm := .none },
  { cls := 17, slots := #[.long (-4)], vm := .none },
  { cls := 17, slots := #[.long (-3)], vm := .none },
  { cls := 17, slots := #[.long (-2)], vm := .none },
  { cls := 17, slots := #[.long (-1)], vm := .none },
  { cls := 17, slots := #[.long (0)], vm := .none },
  { cls := 17, slots := #[.long (1)], vm := .none },
  { cls := 17, slots := #[.long (2)], vm := .none },
  { cls := 17, slots := #[.long (3)], vm := .none },
  { cls := 17, slots := #[.long (4)], vm := .none },
  { cls := 17, slots := #[.long (5)], vm := .none },
  { cls := 17, slots := #[.long (6)], vm := .none },
  { cls := 17, slots := #[.long (7)], vm := .none },
  { cls := 17, slots := #[.long (8)], vm := .none },
  { cls := 17, slots := #[.long (9)], vm := .none },
  { cls := 17, slots := #[.long (10)], vm := .none },
  { cls := 17, slots := #[.long (11)], vm := .none },
  { cls := 17, slots := #[.long (12)], vm := .none },
  { cls := 17, slots := #[.long (13)], vm := .none },
  { cls := 17, slots := #[.long (14)], vm := .none },
  { cls := 17, slots := #[.long (15)], vm := .none },
  { cls := 17, slots := #[.long (16)], vm := .none },
  { cls := 17, slots := #[.long (17)], vm := .none },
  { cls := 17, slots := #[.long (18)], vm := .none },
  { cls := 17, slots := #[.long (19)], vm := .none },
  { cls := 17, slots := #[.long (20)], vm := .none },
  { cls := 17, slots := #[.long (21)], vm := .none },
  { cls := 17, slots := #[.long (22)], vm := .none },
  { cls := 17, slots := #[.long (23)], vm := .none },
  { cls := 17, slots := #[.long (24)], vm := .none },
  { cls := 17, slots := #[.long (25)], vm := .none },
  { cls := 17, slots := #[.long (26)], vm := .none },
  { cls := 17, slots := #[.long (27)], vm := .none },
  { cls := 17, slots := #[.long (28)], vm := .none },
  { cls := 17, slots := #[.long (29)], vm := .none },
  { cls := 17, slots := #[.long (30)], vm := .none },
  { cls := 17, slots := #[.long (31)], vm := .none },
  { cls := 17, slots := #[.long (32)], vm := .none },
  { cls := 17, slots := #[.long (33)], vm := .none },
  { cls := 17, slots := #[.long (34)], vm := .none },
  { cls := 17, slots := #[.long (35)], vm := .none },
  { cls := 17, slots := #[.long (36)], vm := .none },
  { cls := 17, slots := #[.long (37)], vm := .none },
  { cls := 17, slots := #[.long (38)], vm := .none },
  { cls := 17, slots := #[.long (39)], vm := .none },
  { cls := 17, slots := #[.long (40)], vm := .none },
  { cls := 17, slots := #[.long (41)], vm := .none },
  { cls := 17, slots := #[.long (42)], vm := .none },
  { cls := 17, slots := #[.long (43)], vm := .none },
  { cls := 17, slots := #[.long (44)], vm := .none },
  { cls := 17, slots := #[.long (45)], vm := .none },
  { cls := 17, slots := #[.long (46)], vm := .none },
  { cls := 17, slots := #[.long (47)], vm := .none },
  { cls := 17, slots := #[.long (48)], vm := .none },
  { cls := 17, slots := #[.long (49)], vm := .none },
  { cls := 17, slots := #[.long (50)], vm := .none },
  { cls := 17, slots := #[.long (51)], vm := .none },
  { cls := 17, slots := #[.long (52)], vm := .none },
  { cls := 17, slots := #[.long (53)], vm := .none },
  { cls := 17, slots := #[.long (54)], vm := .none },
  { cls := 17, slots := #[.long (55)], vm := .none },
  { cls := 17, slots := #[.long (56)], vm := .none },
  { cls := 17, slots := #[.long (57)], vm := .none },
  { cls := 17, slots := #[.long (58)], vm := .none },
  { cls := 17, slots := #[.long (59)], vm := .none },
  { cls := 17, slots := #[.long (60)], vm := .none },
  { cls := 17, slots := #[.long (61)], vm := .none },
  { cls := 17, slots := #[.long (62)], vm := .none },
  { cls := 17, slots := #[.long (63)], vm := .none },
  { cls := 17, slots := #[.long (64)], vm := .none },
  { cls := 17, slots := #[.long (65)], vm := .none },
  { cls := 17, slots := #[.long (66)], vm := .none },
  { cls := 17, slots := #[.long (67)], vm := .none },
  { cls := 17, slots := #[.long (68)], vm := .none },
  { cls := 17, slots := #[.long (69)], vm := .none },
  { cls := 17, slots := #[.long (70)], vm := .none },
  { cls := 17, slots := #[.long (71)], vm := .none },
  { cls := 17, slots := #[.long (72)], vm := .none },
  { cls := 17, slots := #[.long (73)], vm := .none },
  { cls := 17, slots := #[.long (74)], vm := .none },
  { cls := 17, slots := #[.long (75)], vm := .none },
  { cls := 17, slots := #[.long (76)], vm := .none },
  { cls := 17, slots := #[.long (77)], vm := .none },
  { cls := 17, slots := #[.long (78)], vm := .none },
  { cls := 17, slots := #[.long (79)], vm := .none },
  { cls := 17, slots := #[.long (80)], vm := .none },
  { cls := 17, slots := #[.long (81)], vm := .none },
  { cls := 17, slots := #[.long (82)], vm := .none },
  { cls := 17, slots := #[.long (83)], vm := .none },
  { cls := 17, slots := #[.long (84)], vm := .none },
  { cls := 17, slots := #[.long (85)], vm := .none },
  { cls := 17, slots := #[.long (86)], vm := .none },
  { cls := 17, slots := #[.long (87)], vm := .none },
  { cls := 17, slots := #[.long (88)], vm := .none },
  { cls := 17, slots := #[.long (89)], vm := .none },
  { cls := 17, slots := #[.long (90)], vm := .none },
  { cls := 17, slots := #[.long (91)], vm := .none },
  { cls := 17, slots := #[.long (92)], vm := .none },
  { cls := 17, slots := #[.long (93)], vm := .none },
  { cls := 17, slots := #[.long (94)], vm := .none },
  { cls := 17, slots := #[.long (95)], vm := .none },
  { cls := 17, slots := #[.long (96)], vm := .none },
  { cls := 17, slots := #[.long (97)], vm := .none },
  { cls := 17, slots := #[.long (98)], vm := .none },
  { cls := 17, slots := #[.long (99)], vm := .none },
  { cls := 17, slots := #[.long (100)], vm := .none },
  { cls := 17, slots := #[.long (101)], vm := .none },
  { cls := 17, slots := #[.long (102)], vm := .none },
  { cls := 17, slots := #[.long (103)], vm := .none },
  { cls := 17, slots := #[.long (104)], vm := .none },
  { cls := 17, slots := #[.long (105)], vm := .none },
  { cls := 17, slots := #[.long (106)], vm := .none },
  { cls := 17, slots := #[.long (107)], vm := .none },
  { cls := 17, slots := #[.long (108)], vm := .none },
  { cls := 17, slots := #[.long (109)], vm := .none },
  { cls := 17, slots := #[.long (110)], vm := .none },
  { cls := 17, slots := #[.long (111)], vm := .none },
  { cls := 17, slots := #[.long (112)], vm := .none },
  { cls := 17, slots := #[.long (113)], vm := .none },
  { cls := 17, slots := #[.long (114)], vm := .none },
  { cls := 17, slots := #[.long (115)], vm := .none },
  { cls := 17, slots := #[.long (116)], vm := .none },
  { cls := 17, slots := #[.long (117)], vm := .none },
  { cls := 17, slots := #[.long (118)], vm := .none },
  { cls := 17, slots := #[.long (119)], vm := .none },
  { cls := 17, slots := #[.long (120)], vm := .none },
  { cls := 17, slots := #[.long (121)], vm := .none },
  { cls := 17, slots := #[.long (122)], vm := .none },
  { cls := 17, slots := #[.long (123)], vm := .none },
  { cls := 17, slots := #[.long (124)], vm := .none },
  { cls := 17, slots := #[.long (125)], vm := .none },
  { cls := 17, slots := #[.long (126)], vm := .none },
  { cls := 17, slots := #[.long (127)], vm := .none }]
def classes : Array Class := #[k0, k1, k2, k3, k4, k5, k6, k7, k8, k9, k10, k11, k12, k13, k14, k15, k16, k17, k18, k19, k20, k21, k22, k23, k24, k25, k26, k27, k28, k29]
def interned : List (Array UInt16 × Addr) := []
def slotsUsed : Nat := 519
def theMethod : MethodId := ⟨1, 1⟩
def args0 : Array Value := #[.int 5, .int 6, .int 341, .int 9, .long 1000]
def aboutOver (below : List Frame) : State where
  vm := { classes := classes, interned := interned.toArray }
  heap := heap
  slotsUsed := slotsUsed
  threads := #[{ frames := .invoking theMethod args0 :: below }]
def below0 : List Frame := [.native { method := ⟨0, 0⟩, args := #[] }]
def about1 : State := aboutOver below0
def p0 : Program := .bare "" "" ""
def e0 : Env := launch0.env 0 0 0
theorem w_frames : about1.frames = Frame.invoking theMethod args0 :: below0 := rfl
set_option maxRecDepth 65536 in
theorem w_args : argsFit about1.vm theMethod args0 = true := by decide +kernel
set_option maxRecDepth 65536 in
theorem w_heap : heapFits about1 = true := by decide +kernel
set_option maxRecDepth 65536 in
theorem w_runnable : about1.curStatus? = some .runnable := by decide +kernel
set_option maxRecDepth 65536 in
theorem w_alone : about1.alone = true := by decide +kernel
set_option maxRecDepth 65536 in
theorem w_named : about1.methodNamed? x = some theMethod := by decide +kernel
set_option maxRecDepth 65536 in
theorem w_hears : about1.hears theMethod below0 = true := by decide +kernel
set_option maxRecDepth 65536 in
theorem w_ripe : about1.ripe theMethod args0 below0 = true := by decide +kernel
theorem w_running : about1.status = .running := rfl
set_option maxRecDepth 65536 in
theorem w_room : about1.hasRoom e0.platform room_1 = true :=
  launch0.hasRoom_least _ room_1 (by decide +kernel) (by decide +kernel) (by decide +kernel) (by decide +kernel) (by decide +kernel) (by decide +kernel)
theorem allAtoms_all (ts : List Jvm.Cond) (a : Array Jvm.Value) (st : Jvm.State) : (allAtoms ts).before a st = ts.all (fun c => c.before a st) := by
  induction ts with
  | nil => rfl
  | cons c t ih =>
    show (Jvm.Cond.and c (allAtoms t)).before a st = _
    rw [Jvm.Cond.before_and, ih, List.all_cons]
def words1 : List Jvm.Cond := Jvm.Cond.code x code maxLocals ret :: tables_1
/-- a 'code' word, met by the world's own term for the bytes: nothing is compared byte by byte -/
theorem code_word {y : MethodName} {bytes : ByteArray} {mx : Nat} {rt : Option FieldType} {a : Array Value} {s : State} {m : MethodId} {meth : Method} {c : Code} (h1 : s.methodNamed? y = some m) (h2 : s.vm.method? m = some meth) (h3 : meth.code = some c) (h4 : c.code = bytes)
    (h5 : (c.maxLocals == mx && c.exceptionTable.isEmpty && decide (c.maxStack ≤ mostOperands) && decide (meth.sig.returnType = rt) && !meth.locks && decide (parseMethodDescriptor y.desc = some meth.sig)) = true) : (Jvm.Cond.code y bytes mx rt).before a s = true := by
  simp only [Bool.and_eq_true, beq_iff_eq, Bool.not_eq_true', decide_eq_true_eq] at h5
  obtain ⟨⟨⟨⟨⟨g1, g2⟩, g3⟩, g4⟩, g5⟩, g6⟩ := h5
  simp [Cond.before, Cond.holds, Cond.value, h1, h2, h3, h4, g1, g2, g3, g4, g5, g6]
def isCode : Jvm.Cond → Bool
  | .code _ _ _ _ => true
  | _ => false
theorem all_split {L : List Jvm.Cond} {P : Jvm.Cond → Bool} (h1 : L.all (fun c => isCode c || P c) = true) (h2 : ∀ c ∈ L.filter isCode, P c = true) : L.all P = true := by
  refine List.all_eq_true.mpr fun c hc => ?_
  have h := List.all_eq_true.mp h1 c hc
  rcases Bool.eq_false_or_eq_true (isCode c) with hi | hi
  · exact h2 c (List.mem_filter.mpr ⟨hc, hi⟩)
  · simpa [hi] using h
set_option maxRecDepth 65536 in
theorem w_c0 : (Jvm.Cond.code x code maxLocals ret).before args0 about1 = true := code_word (m := ⟨1, 1⟩) (meth := k1m1) (c := k1c1) (by decide +kernel) rfl rfl rfl (by decide +kernel)
set_option maxRecDepth 65536 in
theorem w_c1 : (Jvm.Cond.code ({ cls := "com/example/assayline/assayline/core/MessageIndex", name := "<init>", desc := "()V" } : Jvm.MethodName) prog_40_method_1_code (1 : Nat) (Option.none : Option Jvm.ClassFile.FieldType)).before args0 about1 = true := code_word (m := ⟨2, 0⟩) (meth := k2m0) (c := k2c0) (by decide +kernel) rfl rfl rfl (by decide +kernel)
set_option maxRecDepth 65536 in
theorem w_c2 : (Jvm.Cond.code ({ cls := "java/lang/Object", name := "<init>", desc := "()V" } : Jvm.MethodName) object_method_1_code (1 : Nat) (Option.none : Option Jvm.ClassFile.FieldType)).before args0 about1 = true := code_word (m := ⟨0, 0⟩) (meth := k0m0) (c := k0c0) (by decide +kernel) rfl rfl rfl (by decide +kernel)
set_option maxRecDepth 65536 in
theorem w_c3 : (Jvm.Cond.code ({ cls := "com/example/assayline/assayline/core/MessageIndexAddPinLaw", name := "hashOf", desc := "(IIII)I" } : Jvm.MethodName) method_4_code (4 : Nat) (Option.some Jvm.ClassFile.FieldType.int)).before args0 about1 = true := code_word (m := ⟨1, 3⟩) (meth := k1m3) (c := k1c3) (by decide +kernel) rfl rfl rfl (by decide +kernel)
set_option maxRecDepth 65536 in
theorem w_c4 : (Jvm.Cond.code ({ cls := "com/example/assayline/assayline/core/MessageIndex", name := "add", desc := "(IJ)V" } : Jvm.MethodName) prog_40_method_2_code (4 : Nat) (Option.none : Option Jvm.ClassFile.FieldType)).before args0 about1 = true := code_word (m := ⟨2, 1⟩) (meth := k2m1) (c := k2c1) (by decide +kernel) rfl rfl rfl (by decide +kernel)
set_option maxRecDepth 65536 in
theorem w_c5 : (Jvm.Cond.code ({ cls := "com/example/assayline/assayline/core/MessageIndex", name := "place", desc := "(IJ)V" } : Jvm.MethodName) prog_40_method_6_code (5 : Nat) (Option.none : Option Jvm.ClassFile.FieldType)).before args0 about1 = true := code_word (m := ⟨2, 4⟩) (meth := k2m4) (c := k2c4) (by decide +kernel) rfl rfl rfl (by decide +kernel)
set_option maxRecDepth 65536 in
theorem w_c6 : (Jvm.Cond.code ({ cls := "com/example/assayline/assayline/core/MessageIndex", name := "first", desc := "(I)I" } : Jvm.MethodName) prog_40_method_7_code (2 : Nat) (Option.some Jvm.ClassFile.FieldType.int)).before args0 about1 = true := code_word (m := ⟨2, 5⟩) (meth := k2m5) (c := k2c5) (by decide +kernel) rfl rfl rfl (by decide +kernel)
set_option maxRecDepth 65536 in
theorem w_c7 : (Jvm.Cond.code ({ cls := "com/example/assayline/assayline/core/MessageIndex", name := "offsetsOf", desc := "(I)Ljava/util/List;" } : Jvm.MethodName) prog_40_method_4_code (4 : Nat) (Option.some (Jvm.ClassFile.FieldType.object "java/util/List"))).before args0 about1 = true := code_word (m := ⟨2, 2⟩) (meth := k2m2) (c := k2c2) (by decide +kernel) rfl rfl rfl (by decide +kernel)
set_option maxRecDepth 65536 in
theorem w_c8 : (Jvm.Cond.code ({ cls := "java/util/ArrayList", name := "<init>", desc := "()V" } : Jvm.MethodName) jdk_38_method_2_code (1 : Nat) (Option.none : Option Jvm.ClassFile.FieldType)).before args0 about1 = true := code_word (m := ⟨12, 0⟩) (meth := k12m0) (c := k12c0) (by decide +kernel) rfl rfl rfl (by decide +kernel)
set_option maxRecDepth 65536 in
theorem w_c9 : (Jvm.Cond.code ({ cls := "java/util/AbstractList", name := "<init>", desc := "()V" } : Jvm.MethodName) jdk_39_method_1_code (1 : Nat) (Option.none : Option Jvm.ClassFile.FieldType)).before args0 about1 = true := code_word (m := ⟨8, 0⟩) (meth := k8m0) (c := k8c0) (by decide +kernel) rfl rfl rfl (by decide +kernel)
set_option maxRecDepth 65536 in
theorem w_c10 : (Jvm.Cond.code ({ cls := "java/util/AbstractCollection", name := "<init>", desc := "()V" } : Jvm.MethodName) jdk_22_method_1_code (1 : Nat) (Option.none : Option Jvm.ClassFile.FieldType)).before args0 about1 = true := code_word (m := ⟨5, 0⟩) (meth := k5m0) (c := k5c0) (by decide +kernel) rfl rfl rfl (by decide +kernel)
set_option maxRecDepth 65536 in
theorem w_c11 : (Jvm.Cond.code ({ cls := "com/example/assayline/assayline/core/MessageIndexAddPinLaw", name := "bit", desc := "(II)I" } : Jvm.MethodName) method_3_code (2 : Nat) (Option.some Jvm.ClassFile.FieldType.int)).before args0 about1 = true := code_word (m := ⟨1, 2⟩) (meth := k1m2) (c := k1c2) (by decide +kernel) rfl rfl rfl (by decide +kernel)
set_option maxRecDepth 65536 in
theorem w_c12 : (Jvm.Cond.code ({ cls := "java/util/ArrayList", name := "size", desc := "()I" } : Jvm.MethodName) jdk_38_method_8_code (1 : Nat) (Option.some Jvm.ClassFile.FieldType.int)).before args0 about1 = true := code_word (m := ⟨12, 3⟩) (meth := k12m3) (c := k12c3) (by decide +kernel) rfl rfl rfl (by decide +kernel)
set_option maxRecDepth 65536 in
theorem w_c13 : (Jvm.Cond.code ({ cls := "com/example/assayline/assayline/core/MessageIndexAddPinLaw", name := "bitOf", desc := "(Ljava/util/List;IJ)I" } : Jvm.MethodName) method_5_code (8 : Nat) (Option.some Jvm.ClassFile.FieldType.int)).before args0 about1 = true := code_word (m := ⟨1, 4⟩) (meth := k1m4) (c := k1c4) (by decide +kernel) rfl rfl rfl (by decide +kernel)
set_option maxRecDepth 65536 in
theorem w_c14 : (Jvm.Cond.code ({ cls := "com/example/assayline/assayline/core/MessageIndex", name := "next", desc := "(I)I" } : Jvm.MethodName) prog_40_method_8_code (2 : Nat) (Option.some Jvm.ClassFile.FieldType.int)).before args0 about1 = true := code_word (m := ⟨2, 6⟩) (meth := k2m6) (c := k2c6) (by decide +kernel) rfl rfl rfl (by decide +kernel)
set_option maxRecDepth 65536 in
theorem w_c15 : (Jvm.Cond.code ({ cls := "java/lang/Long", name := "valueOf", desc := "(J)Ljava/lang/Long;" } : Jvm.MethodName) jdk_35_method_24_code (3 : Nat) (Option.some (Jvm.ClassFile.FieldType.object "java/lang/Long"))).before args0 about1 = true := code_word (m := ⟨17, 0⟩) (meth := k17m0) (c := k17c0) (by decide +kernel) rfl rfl rfl (by decide +kernel)
set_option maxRecDepth 65536 in
theorem w_c16 : (Jvm.Cond.code ({ cls := "java/lang/Long", name := "<init>", desc := "(J)V" } : Jvm.MethodName) jdk_35_method_26_code (3 : Nat) (Option.none : Option Jvm.ClassFile.FieldType)).before args0 about1 = true := code_word (m := ⟨17, 1⟩) (meth := k17m1) (c := k17c1) (by decide +kernel) rfl rfl rfl (by decide +kernel)
set_option maxRecDepth 65536 in
theorem w_c17 : (Jvm.Cond.code ({ cls := "java/lang/Number", name := "<init>", desc := "()V" } : Jvm.MethodName) jdk_18_method_1_code (1 : Nat) (Option.none : Option Jvm.ClassFile.FieldType)).before args0 about1 = true := code_word (m := ⟨13, 0⟩) (meth := k13m0) (c := k13c0) (by decide +kernel) rfl rfl rfl (by decide +kernel)
set_option maxRecDepth 65536 in
theorem w_c18 : (Jvm.Cond.code ({ cls := "java/util/ArrayList", name := "add", desc := "(Ljava/lang/Object;)Z" } : Jvm.MethodName) jdk_38_method_25_code (2 : Nat) (Option.some Jvm.ClassFile.FieldType.boolean)).before args0 about1 = true := code_word (m := ⟨12, 7⟩) (meth := k12m7) (c := k12c7) (by decide +kernel) rfl rfl rfl (by decide +kernel)
set_option maxRecDepth 65536 in
theorem w_c19 : (Jvm.Cond.code ({ cls := "java/util/ArrayList", name := "add", desc := "(Ljava/lang/Object;[Ljava/lang/Object;I)V" } : Jvm.MethodName) jdk_38_method_24_code (4 : Nat) (Option.none : Option Jvm.ClassFile.FieldType)).before args0 about1 = true := code_word (m := ⟨12, 6⟩) (meth := k12m6) (c := k12c6) (by decide +kernel) rfl rfl rfl (by decide +kernel)
set_option maxRecDepth 65536 in
theorem w_c20 : (Jvm.Cond.code ({ cls := "java/util/ArrayList", name := "grow", desc := "()[Ljava/lang/Object;" } : Jvm.MethodName) jdk_38_method_7_code (1 : Nat) (Option.some (Jvm.ClassFile.FieldType.array (Jvm.ClassFile.FieldType.object "java/lang/Object")))).before args0 about1 = true := code_word (m := ⟨12, 2⟩) (meth := k12m2) (c := k12c2) (by decide +kernel) rfl rfl rfl (by decide +kernel)
set_option maxRecDepth 65536 in
theorem w_c21 : (Jvm.Cond.code ({ cls := "java/util/ArrayList", name := "grow", desc := "(I)[Ljava/lang/Object;" } : Jvm.MethodName) jdk_38_method_6_code (4 : Nat) (Option.some (Jvm.ClassFile.FieldType.array (Jvm.ClassFile.FieldType.object "java/lang/Object")))).before args0 about1 = true := code_word (m := ⟨12, 1⟩) (meth := k12m1) (c := k12c1) (by decide +kernel) rfl rfl rfl (by decide +kernel)
set_option maxRecDepth 65536 in
theorem w_c22 : (Jvm.Cond.code ({ cls := "java/lang/Math", name := "max", desc := "(II)I" } : Jvm.MethodName) jdk_29_method_65_code (2 : Nat) (Option.some Jvm.ClassFile.FieldType.int)).before args0 about1 = true := code_word (m := ⟨18, 1⟩) (meth := k18m1) (c := k18c1) (by decide +kernel) rfl rfl rfl (by decide +kernel)
set_option maxRecDepth 65536 in
theorem w_c23 : (Jvm.Cond.code ({ cls := "java/util/ArrayList", name := "get", desc := "(I)Ljava/lang/Object;" } : Jvm.MethodName) jdk_38_method_20_code (2 : Nat) (Option.some (Jvm.ClassFile.FieldType.object "java/lang/Object"))).before args0 about1 = true := code_word (m := ⟨12, 5⟩) (meth := k12m5) (c := k12c5) (by decide +kernel) rfl rfl rfl (by decide +kernel)
set_option maxRecDepth 65536 in
theorem w_c24 : (Jvm.Cond.code ({ cls := "java/util/Objects", name := "checkIndex", desc := "(II)I" } : Jvm.MethodName) jdk_31_method_17_code (2 : Nat) (Option.some Jvm.ClassFile.FieldType.int)).before args0 about1 = true := code_word (m := ⟨19, 1⟩) (meth := k19m1) (c := k19c1) (by decide +kernel) rfl rfl rfl (by decide +kernel)
set_option maxRecDepth 65536 in
theorem w_c25 : (Jvm.Cond.code ({ cls := "jdk/internal/util/Preconditions", name := "checkIndex", desc := "(IILjava/util/function/BiFunction;)I" } : Jvm.MethodName) jdk_41_method_11_code (3 : Nat) (Option.some Jvm.ClassFile.FieldType.int)).before args0 about1 = true := code_word (m := ⟨20, 1⟩) (meth := k20m1) (c := k20c1) (by decide +kernel) rfl rfl rfl (by decide +kernel)
set_option maxRecDepth 65536 in
theorem w_c26 : (Jvm.Cond.code ({ cls := "java/util/ArrayList", name := "elementData", desc := "(I)Ljava/lang/Object;" } : Jvm.MethodName) jdk_38_method_18_code (2 : Nat) (Option.some (Jvm.ClassFile.FieldType.object "java/lang/Object"))).before args0 about1 = true := code_word (m := ⟨12, 4⟩) (meth := k12m4) (c := k12c4) (by decide +kernel) rfl rfl rfl (by decide +kernel)
set_option maxRecDepth 65536 in
theorem w_c27 : (Jvm.Cond.code ({ cls := "java/lang/Long", name := "longValue", desc := "()J" } : Jvm.MethodName) jdk_35_method_31_code (1 : Nat) (Option.some Jvm.ClassFile.FieldType.long)).before args0 about1 = true := code_word (m := ⟨17, 2⟩) (meth := k17m2) (c := k17c2) (by decide +kernel) rfl rfl rfl (by decide +kernel)
set_option maxRecDepth 65536 in
theorem w_c28 : (Jvm.Cond.code ({ cls := "com/example/assayline/assayline/core/MessageIndex", name := "rebuild", desc := "(IJ)V" } : Jvm.MethodName) prog_40_method_5_code (7 : Nat) (Option.none : Option Jvm.ClassFile.FieldType)).before args0 about1 = true := code_word (m := ⟨2, 3⟩) (meth := k2m3) (c := k2c3) (by decide +kernel) rfl rfl rfl (by decide +kernel)
def codes1 : List Jvm.Cond := [Jvm.Cond.code x code maxLocals ret, Jvm.Cond.code ({ cls := "com/example/assayline/assayline/core/MessageIndex", name := "<init>", desc := "()V" } : Jvm.MethodName) prog_40_method_1_code (1 : Nat) (Option.none : Option Jvm.ClassFile.FieldType), Jvm.Cond.code ({ cls := "java/lang/Object", name := "<init>", desc := "()V" } : Jvm.MethodName) object_method_1_code (1 : Nat) (Option.none : Option Jvm.ClassFile.FieldType), Jvm.Cond.code ({ cls := "com/example/assayline/assayline/core/MessageIndexAddPinLaw", name := "hashOf", desc := "(IIII)I" } : Jvm.MethodName) method_4_code (4 : Nat) (Option.some Jvm.ClassFile.FieldType.int), Jvm.Cond.code ({ cls := "com/example/assayline/assayline/core/MessageIndex", name := "add", desc := "(IJ)V" } : Jvm.MethodName) prog_40_method_2_code (4 : Nat) (Option.none : Option Jvm.ClassFile.FieldType), Jvm.Cond.code ({ cls := "com/example/assayline/assayline/core/MessageIndex", name := "place", desc := "(IJ)V" } : Jvm.MethodName) prog_40_method_6_code (5 : Nat) (Option.none : Option Jvm.ClassFile.FieldType), Jvm.Cond.code ({ cls := "com/example/assayline/assayline/core/MessageIndex", name := "first", desc := "(I)I" } : Jvm.MethodName) prog_40_method_7_code (2 : Nat) (Option.some Jvm.ClassFile.FieldType.int), Jvm.Cond.code ({ cls := "com/example/assayline/assayline/core/MessageIndex", name := "offsetsOf", desc := "(I)Ljava/util/List;" } : Jvm.MethodName) prog_40_method_4_code (4 : Nat) (Option.some (Jvm.ClassFile.FieldType.object "java/util/List")), Jvm.Cond.code ({ cls := "java/util/ArrayList", name := "<init>", desc := "()V" } : Jvm.MethodName) jdk_38_method_2_code (1 : Nat) (Option.none : Option Jvm.ClassFile.FieldType), Jvm.Cond.code ({ cls := "java/util/AbstractList", name := "<init>", desc := "()V" } : Jvm.MethodName) jdk_39_method_1_code (1 : Nat) (Option.none : Option Jvm.ClassFile.FieldType), Jvm.Cond.code ({ cls := "java/util/AbstractCollection", name := "<init>", desc := "()V" } : Jvm.MethodName) jdk_22_method_1_code (1 : Nat) (Option.none : Option Jvm.ClassFile.FieldType), Jvm.Cond.code ({ cls := "com/example/assayline/assayline/core/MessageIndexAddPinLaw", name := "bit", desc := "(II)I" } : Jvm.MethodName) method_3_code (2 : Nat) (Option.some Jvm.ClassFile.FieldType.int), Jvm.Cond.code ({ cls := "java/util/ArrayList", name := "size", desc := "()I" } : Jvm.MethodName) jdk_38_method_8_code (1 : Nat) (Option.some Jvm.ClassFile.FieldType.int), Jvm.Cond.code ({ cls := "com/example/assayline/assayline/core/MessageIndexAddPinLaw", name := "bitOf", desc := "(Ljava/util/List;IJ)I" } : Jvm.MethodName) method_5_code (8 : Nat) (Option.some Jvm.ClassFile.FieldType.int), Jvm.Cond.code ({ cls := "com/example/assayline/assayline/core/MessageIndex", name := "next", desc := "(I)I" } : Jvm.MethodName) prog_40_method_8_code (2 : Nat) (Option.some Jvm.ClassFile.FieldType.int), Jvm.Cond.code ({ cls := "java/lang/Long", name := "valueOf", desc := "(J)Ljava/lang/Long;" } : Jvm.MethodName) jdk_35_method_24_code (3 : Nat) (Option.some (Jvm.ClassFile.FieldType.object "java/lang/Long")), Jvm.Cond.code ({ cls := "java/lang/Long", name := "<init>", desc := "(J)V" } : Jvm.MethodName) jdk_35_method_26_code (3 : Nat) (Option.none : Option Jvm.ClassFile.FieldType), Jvm.Cond.code ({ cls := "java/lang/Number", name := "<init>", desc := "()V" } : Jvm.MethodName) jdk_18_method_1_code (1 : Nat) (Option.none : Option Jvm.ClassFile.FieldType), Jvm.Cond.code ({ cls := "java/util/ArrayList", name := "add", desc := "(Ljava/lang/Object;)Z" } : Jvm.MethodName) jdk_38_method_25_code (2 : Nat) (Option.some Jvm.ClassFile.FieldType.boolean), Jvm.Cond.code ({ cls := "java/util/ArrayList", name := "add", desc := "(Ljava/lang/Object;[Ljava/lang/Object;I)V" } : Jvm.MethodName) jdk_38_method_24_code (4 : Nat) (Option.none : Option Jvm.ClassFile.FieldType), Jvm.Cond.code ({ cls := "java/util/ArrayList", name := "grow", desc := "()[Ljava/lang/Object;" } : Jvm.MethodName) jdk_38_method_7_code (1 : Nat) (Option.some (Jvm.ClassFile.FieldType.array (Jvm.ClassFile.FieldType.object "java/lang/Object"))), Jvm.Cond.code ({ cls := "java/util/ArrayList", name := "grow", desc := "(I)[Ljava/lang/Object;" } : Jvm.MethodName) jdk_38_method_6_code (4 : Nat) (Option.some (Jvm.ClassFile.FieldType.array (Jvm.ClassFile.FieldType.object "java/lang/Object"))), Jvm.Cond.code ({ cls := "java/lang/Math", name := "max", desc := "(II)I" } : Jvm.MethodName) jdk_29_method_65_code (2 : Nat) (Option.some Jvm.ClassFile.FieldType.int), Jvm.Cond.code ({ cls := "java/util/ArrayList", name := "get", desc := "(I)Ljava/lang/Object;" } : Jvm.MethodName) jdk_38_method_20_code (2 : Nat) (Option.some (Jvm.ClassFile.FieldType.object "java/lang/Object")), Jvm.Cond.code ({ cls := "java/util/Objects", name := "checkIndex", desc := "(II)I" } : Jvm.MethodName) jdk_31_method_17_code (2 : Nat) (Option.some Jvm.ClassFile.FieldType.int), Jvm.Cond.code ({ cls := "jdk/internal/util/Preconditions", name := "checkIndex", desc := "(IILjava/util/function/BiFunction;)I" } : Jvm.MethodName) jdk_41_method_11_code (3 : Nat) (Option.some Jvm.ClassFile.FieldType.int), Jvm.Cond.code ({ cls := "java/util/ArrayList", name := "elementData", desc := "(I)Ljava/lang/Object;" } : Jvm.MethodName) jdk_38_method_18_code (2 : Nat) (Option.some (Jvm.ClassFile.FieldType.object "java/lang/Object")), Jvm.Cond.code ({ cls := "java/lang/Long", name := "longValue", desc := "()J" } : Jvm.MethodName) jdk_35_method_31_code (1 : Nat) (Option.some Jvm.ClassFile.FieldType.long), Jvm.Cond.code ({ cls := "com/example/assayline/assayline/core/MessageIndex", name := "rebuild", desc := "(IJ)V" } : Jvm.MethodName) prog_40_method_5_code (7 : Nat) (Option.none : Option Jvm.ClassFile.FieldType)]
set_option maxRecDepth 65536 in
theorem codes_eq : words1.filter isCode = codes1 := rfl
theorem w_codes : ∀ c ∈ words1.filter isCode, c.before args0 about1 = true := by
  rw [codes_eq]
  intro c hc
  simp only [codes1, List.mem_cons, List.not_mem_nil, or_false] at hc
  rcases hc with rfl | rfl | rfl | rfl | rfl | rfl | rfl | rfl | rfl | rfl | rfl | rfl | rfl | rfl | rfl | rfl | rfl | rfl | rfl | rfl | rfl | rfl | rfl | rfl | rfl | rfl | rfl | rfl | rfl
  · exact w_c0
  · exact w_c1
  · exact w_c2
  · exact w_c3
  · exact w_c4
  · exact w_c5
  · exact w_c6
  · exact w_c7
  · exact w_c8
  · exact w_c9
  · exact w_c10
  · exact w_c11
  · exact w_c12
  · exact w_c13
  · exact w_c14
  · exact w_c15
  · exact w_c16
  · exact w_c17
  · exact w_c18
  · exact w_c19
  · exact w_c20
  · exact w_c21
  · exact w_c22
  · exact w_c23
  · exact w_c24
  · exact w_c25
  · exact w_c26
  · exact w_c27
  · exact w_c28
set_option maxRecDepth 65536 in
theorem w_t1 : (words1.take 24).all (fun c => isCode c || c.before args0 about1) = true := by decide +kernel
set_option maxRecDepth 65536 in
theorem w_t2 : ((words1.drop 24).take 24).all (fun c => isCode c || c.before args0 about1) = true := by decide +kernel
set_option maxRecDepth 65536 in
theorem w_t3 : (((words1.drop 24).drop 24).take 24).all (fun c => isCode c || c.before args0 about1) = true := by decide +kernel
set_option maxRecDepth 65536 in
theorem w_t4 : ((((words1.drop 24).drop 24).drop 24).take 24).all (fun c => isCode c || c.before args0 about1) = true := by decide +kernel
set_option maxRecDepth 65536 in
theorem w_t5 : (((((words1.drop 24).drop 24).drop 24).drop 24).take 24).all (fun c => isCode c || c.before args0 about1) = true := by decide +kernel
set_option maxRecDepth 65536 in
theorem w_t6 : ((((((words1.drop 24).drop 24).drop 24).drop 24).drop 24).take 24).all (fun c => isCode c || c.before args0 about1) = true := by decide +kernel
set_option maxRecDepth 65536 in
theorem w_t7 : (((((((words1.drop 24).drop 24).drop 24).drop 24).drop 24).drop 24).take 24).all (fun c => isCode c || c.before args0 about1) = true := by decide +kernel
set_option maxRecDepth 65536 in
theorem w_t8 : (((((((words1.drop 24).drop 24).drop 24).drop 24).drop 24).drop 24).drop 24).all (fun c => isCode c || c.before args0 about1) = true := by decide +kernel
theorem w_tables : (allAtoms (Jvm.Cond.code x code maxLocals ret :: tables_1)).before args0 about1 = true := by
  rw [allAtoms_all]
  show words1.all (fun c => c.before args0 about1) = true
  refine all_split ?_ w_codes
  rw [← List.take_append_drop 24 words1, List.all_append, w_t1, ← List.take_append_drop 24 (words1.drop 24), List.all_append, w_t2, ← List.take_append_drop 24 ((words1.drop 24).drop 24), List.all_append, w_t3, ← List.take_append_drop 24 (((words1.drop 24).drop 24).drop 24), List.all_append, w_t4, ← List.take_append_drop 24 ((((words1.drop 24).drop 24).drop 24).drop 24), List.all_append, w_t5, ← List.take_append_drop 24 (((((words1.drop 24).drop 24).drop 24).drop 24).drop 24), List.all_append, w_t6, ← List.take_append_drop 24 ((((((words1.drop 24).drop 24).drop 24).drop 24).drop 24).drop 24), List.all_append, w_t7, w_t8]
  rfl
set_option maxRecDepth 65536 in
theorem w_rest : rest_1_c.before args0 about1 = true := by decide +kernel
set_option maxRecDepth 65536 in
theorem w_case : (Jvm.Cond.and given_1 narrow_1).before args0 about1 = true := by decide +kernel
theorem w_applies : (headSpec (Jvm.Cond.code x code maxLocals ret :: tables_1) room_1).applies x e0.platform about1 = true :=
  (Spec.applies_iff w_frames).mpr ⟨w_running, w_runnable, w_alone, w_named, w_hears, w_ripe, w_room, w_tables⟩
theorem atStart : AtStart classFile x code maxLocals ret World_1 tables_1 room_1 Calls_1 rest_1 Pre_1 launch0 p0 e0 about1 theMethod args0 below0 :=
  ⟨lists_1, trivial, launch0.admits_env _ _ _, launch0.least_env, fairChoices_fair.cas, fairChoices_fair.clock, w_frames, w_args, w_heap, w_applies, trivial, w_rest, w_case⟩
end start1
theorem witness_1 : WitnessClaimed_1 := ⟨start1.p0, start1.e0, start1.about1, start1.theMethod, start1.args0, start1.below0, start1.atStart⟩
end Jvm.Pilot.@@N@@
