import JvmDerived
import JvmDerived.Pilot.@@N@@Statement
import JvmDerived.Pilot.@@N@@Code
set_option linter.unusedVariables false
set_option linter.unusedSimpArgs false

namespace Jvm.Pilot.@@N@@
open Jvm Jvm.ClassFile Sem Op Lib Jvm.Free Jvm.Stand Jvm.LawKit Jvm.RoadKit Bundle Jvm.Pilot.@@N@@.Jvm.D


section OwnKit
variable {p : Program} {l : Launch} {e : Env} {R : Room} {s : State} {m : MethodId} {args : Array Value} {below : List Frame} {meth : Method} {c : Code} {T : State} {locs : List Loc} {cells slots : Nat} {h : Heap} {Q : Option Value → Heap → List Loc → Prop} {C S : Nat}
/-- from the state t the run comes to its end, and what it leaves answers Q -/
def own_Gl (p : Program) (e : Env) (below : List Frame) (s : State) (Q : Option Value → Heap → List Loc → Prop) (C S : Nat) (t : State) : Prop :=
  ∃ s₂ o, Steps p.tables e below t s₂ ∧ s₂.status = .running ∧ Ended s₂ below o ∧ ∃ v L, o = .returned v ∧ Q v s₂.heap L ∧ FrameEnd s o s₂ L C S
theorem own_st {t t' : State} (k : ∀ target, Steps p.tables e below t' target → Steps p.tables e below t target) (d : own_Gl p e below s Q C S t') : own_Gl p e below s Q C S t := by
  obtain ⟨s₂, o, h1, h2⟩ := d
  exact ⟨s₂, o, k _ h1, h2⟩
theorem own_tr {t t' : State} (k : Steps p.tables e below t t') (d : own_Gl p e below s Q C S t') : own_Gl p e below s Q C S t := own_st (fun _ h => k.trans h) d
theorem own_cast {g g' : JFrame} (q : g = g') (d : own_Gl p e below s Q C S (T.setTop g')) : own_Gl p e below s Q C S (T.setTop g) := q ▸ d
theorem own_ret (X : Stand p l e R s m args below meth c T locs cells slots) (hlk : meth.locks = false) {v : Option Value} {t : State} (hv : meth.sig.returnType = none → v = none) (eT : T.heap = h) (hq : Q v h locs) (hc : cells ≤ C) (hs : slots ≤ S)
    (k : ∀ fs, (∀ (f : JFrame) (acts : List Action), f.method = m → f.locked = none → f.entered = [] → (doReturn e (T.setTop f) acts v).1 = T.setFrames fs) → Steps p.tables e below t (T.setFrames fs)) : own_Gl p e below s Q C S t := by
  obtain ⟨fs, hr, hrun, hended, hW, hsame⟩ := X.leave hv hlk
  exact ⟨_, _, k fs hr, hrun, hended, v, locs, rfl, by show Q v T.heap locs; rw [eT]; exact hq, ⟨_, rfl⟩, hW, hsame.mono hc hs⟩
theorem own_retI (X : Stand p l e R s m args below meth c T locs cells slots) (hx : p.tables.exec = Jvm.exec) (hlk : meth.locks = false) {pc : Nat} {Ls : Array Slot} {z : Int32} {rest : List Value} (hret : meth.sig.returnType = some .int) (hd : decode c.code pc = .ok (.ireturn, 1)) (eT : T.heap = h) (hq : Q (some (.int z)) h locs) (hc : cells ≤ C) (hs : slots ≤ S) :
    own_Gl p e below s Q C S (T.setTop (mkF m pc Ls (.int z :: rest))) :=
  own_ret X hlk (fun q => by rw [hret] at q; cases q) eT hq hc hs (fun _ hr => retOut X hx hret rfl (Or.inl ⟨rfl, Or.inl rfl, _, rfl⟩) hd hr)
theorem own_retN (X : Stand p l e R s m args below meth c T locs cells slots) (hx : p.tables.exec = Jvm.exec) (hlk : meth.locks = false) {pc : Nat} {Ls : Array Slot} {z : Int32} {t : FieldType} {rest : List Value} (hret : meth.sig.returnType = some t) (ht : t = .boolean ∨ t = .byte ∨ t = .char ∨ t = .short) (hd : decode c.code pc = .ok (.ireturn, 1)) (eT : T.heap = h) (hq : Q (some (.int (nar t z))) h locs) (hc : cells ≤ C) (hs : slots ≤ S) :
    own_Gl p e below s Q C S (T.setTop (mkF m pc Ls (.int z :: rest))) :=
  own_ret X hlk (fun q => by rw [hret] at q; cases q) eT hq hc hs (fun _ hr => retN X hx hret ht hd hr)
theorem own_retJ (X : Stand p l e R s m args below meth c T locs cells slots) (hx : p.tables.exec = Jvm.exec) (hlk : meth.locks = false) {pc : Nat} {Ls : Array Slot} {z : Int64} {rest : List Value} (hret : meth.sig.returnType = some .long) (hd : decode c.code pc = .ok (.lreturn, 1)) (eT : T.heap = h) (hq : Q (some (.long z)) h locs) (hc : cells ≤ C) (hs : slots ≤ S) :
    own_Gl p e below s Q C S (T.setTop (mkF m pc Ls (.long z :: rest))) :=
  own_ret X hlk (fun q => by rw [hret] at q; cases q) eT hq hc hs (fun _ hr => retOut X hx hret rfl (Or.inr (Or.inl ⟨rfl, rfl, _, rfl⟩)) hd hr)
theorem own_retA (X : Stand p l e R s m args below meth c T locs cells slots) (hx : p.tables.exec = Jvm.exec) (hlk : meth.locks = false) {pc : Nat} {Ls : Array Slot} {w : Value} {t : FieldType} {rest : List Value} (hret : meth.sig.returnType = some t) (ht : t.isReference = true) (hw : w.isRef = true) (hn : narrow t w = w) (hd : decode c.code pc = .ok (.areturn, 1)) (eT : T.heap = h) (hq : Q (some w) h locs) (hc : cells ≤ C) (hs : slots ≤ S) :
    own_Gl p e below s Q C S (T.setTop (mkF m pc Ls (w :: rest))) :=
  own_ret X hlk (fun q => by rw [hret] at q; cases q) eT hq hc hs (fun _ hr => retOut X hx hret hn (Or.inr (Or.inr (Or.inr (Or.inr ⟨rfl, ht, hw⟩)))) hd hr)
theorem own_retV (X : Stand p l e R s m args below meth c T locs cells slots) (hx : p.tables.exec = Jvm.exec) (hlk : meth.locks = false) {pc : Nat} {Ls : Array Slot} (hret : meth.sig.returnType = none) (hd : decode c.code pc = .ok (.return_, 1)) (eT : T.heap = h) (hq : Q none h locs) (hc : cells ≤ C) (hs : slots ≤ S) :
    own_Gl p e below s Q C S (T.setTop (mkF m pc Ls [])) :=
  own_ret X hlk (fun _ => rfl) eT hq hc hs (fun _ hr => X.returnOut hx hret hd hr)
end OwnKit


theorem own_selpriv {Z s : State} {a0 args : Array Value} {y : MethodName} {n : Nat} (hZ : Z.Warmed39 s.vm) (wi : (Jvm.Cond.instantiable y.cls n).before a0 Z = true) (wp : (Jvm.Cond.privateMethod y).before a0 Z = true) (wm : (Jvm.Cond.instanceMethod y).before a0 Z = true) (hy : y.cls ≠ "java/lang/invoke/MethodHandle" ∧ y.cls ≠ "java/lang/invoke/VarHandle") : (Jvm.Cond.selects y.cls y y).before args s = true := by
  obtain ⟨c, k, h1, h2, -, h4, -⟩ := Cond.instantiable_spec (mvT (args := args) hZ wi)
  simp only [Bool.or_eq_false_iff] at h4
  exact selects_self_of_private h1 h2 h4.1 (Cond.privateMethod_at (mvP (args := args) hZ wp)) (mvT hZ wm) hy


/-- the array's list by its function -/
def own_fl (n : Nat) (f : Nat → Int32) : List Value := (List.range n).map fun i => Value.int (f i)
theorem own_fl_len (n : Nat) (f : Nat → Int32) : (own_fl n f).length = n := by simp [own_fl]
theorem own_fl_get (n : Nat) (f : Nat → Int32) (i : Nat) (d : Value) (h : i < n) : (own_fl n f).getD i d = Value.int (f i) := by
  simp [own_fl, List.getD, h]
theorem own_fl_set (n : Nat) (f : Nat → Int32) (i : Nat) (v : Int32) : (own_fl n f).set i (Value.int v) = own_fl n (fun j => if j = i then v else f j) := by
  apply List.ext_getElem
  · simp [own_fl]
  · intro j h1 h2
    simp only [own_fl, List.getElem_set, List.getElem_map, List.getElem_range]
    by_cases q : i = j
    · subst q; simp
    · have q2 : ¬ j = i := fun z => q z.symm
      simp [q, q2]
theorem own_nat {i : Int32} (h : ¬ i < 0) : (i.toNatClampNeg : Int) = i.toInt := (nat_of h).symm
theorem own_natlt {i z : Int32} (h0 : ¬ i < 0) (h : i < z) : i.toNatClampNeg < z.toNatClampNeg := by
  have e0 : (0 : Int32).toInt = 0 := by decide
  have h1 := h; have h2 := h0
  rw [Int32.lt_iff_toInt_lt] at h1 h2
  have hz : ¬ z < 0 := by rw [Int32.lt_iff_toInt_lt]; omega
  have q1 := own_nat h0; have q2 := own_nat hz
  omega


def own_s15 (g : Int32) : Int32 := (g ^^^ ((g.toUInt32 >>> ((15 : Int32) &&& 31).toUInt32).toInt32))
def own_s13 (g : Int32) : Int32 := (g ^^^ ((g.toUInt32 >>> ((13 : Int32) &&& 31).toUInt32).toInt32))
def own_hash (x y : Int32) : Int32 := own_s13 ((own_s15 (((own_s15 (((-1640531527 : Int32) ^^^ x) * (16777619 : Int32))) ^^^ y) * (16777619 : Int32))) * (-2048144789 : Int32))
def own_h (x y : Int32) : Nat := ((own_hash x y) &&& (15 : Int32)).toNatClampNeg
def own_req (vf : Nat → Int32) (r : Nat) (x y : Int32) : Int32 := if vf (2 * r) = x then (if vf (2 * r + 1) = y then (1 : Int32) else (0 : Int32)) else (0 : Int32)
def own_find (rf vf : Nat → Int32) (x y : Int32) : Nat → Nat → Option (Option Nat)
  | 0, _ => none
  | k + 1, i => if rf i = (0 : Int32) then some (some i) else if own_req vf (rf i - (1 : Int32)).toNatClampNeg x y = (0 : Int32) then own_find rf vf x y k ((i + 1) % 16) else some none
theorem own_find_succ (rf vf : Nat → Int32) (x y : Int32) (k i : Nat) : own_find rf vf x y (k + 1) i = if rf i = (0 : Int32) then some (some i) else if own_req vf (rf i - (1 : Int32)).toNatClampNeg x y = (0 : Int32) then own_find rf vf x y k ((i + 1) % 16) else some none := rfl
theorem own_m15 (x : Int32) : ¬ (x &&& (15 : Int32)) < 0 ∧ (x &&& (15 : Int32)) < (16 : Int32) := by
  have h := c_mask x (15 : Int32) 4 (by decide) (by decide)
  have e0 : (0 : Int32).toInt = 0 := by decide
  have e1 : (16 : Int32).toInt = 16 := by decide
  rw [Int32.lt_iff_toInt_lt, Int32.lt_iff_toInt_lt]
  omega
theorem own_lt16 {i : Int32} (h : ¬ i < 0 ∧ i < (16 : Int32)) : i.toNatClampNeg < 16 := own_natlt h.1 h.2
theorem own_hlt (x y : Int32) : own_h x y < 16 := own_lt16 (own_m15 _)
theorem own_nx (i : Int32) (h : ¬ i < 0 ∧ i < (16 : Int32)) : ((i + (1 : Int32)) &&& (15 : Int32)).toNatClampNeg = (i.toNatClampNeg + 1) % 16 := by
  have q1 := own_nat h.1; have q2 := own_nat (own_m15 (i + (1 : Int32))).1
  have m := c_mask (i + (1 : Int32)) (15 : Int32) 4 (by decide) (by decide)
  have a := c_iadd i (1 : Int32); have r := rng32 (i + (1 : Int32)); have l := own_lt16 h
  have e1 : (1 : Int32).toInt = 1 := by decide
  omega
theorem own_ix (r c : Int32) (h : ¬ r < 0 ∧ r < (16 : Int32)) (hc : c = (0 : Int32) ∨ c = (1 : Int32)) : (¬ ((r * (2 : Int32)) + c) < 0 ∧ ((r * (2 : Int32)) + c) < (32 : Int32)) ∧ ((r * (2 : Int32)) + c).toNatClampNeg = 2 * r.toNatClampNeg + c.toNatClampNeg := by
  have q1 := own_nat h.1; have l := own_lt16 h
  have m := c_imul r (2 : Int32); have a := c_iadd (r * (2 : Int32)) c; have r1 := rng32 (r * (2 : Int32)); have r2 := rng32 ((r * (2 : Int32)) + c)
  have e0 : (0 : Int32).toInt = 0 := by decide
  have e2 : (2 : Int32).toInt = 2 := by decide
  have e3 : (32 : Int32).toInt = 32 := by decide
  have ec : (c.toInt = 0 ∧ c.toNatClampNeg = 0) ∨ (c.toInt = 1 ∧ c.toNatClampNeg = 1) := by rcases hc with rfl | rfl <;> decide
  rw [e2] at m
  have n0 : ¬ ((r * (2 : Int32)) + c) < 0 := by rw [Int32.lt_iff_toInt_lt]; omega
  have q2 := own_nat n0
  refine ⟨⟨n0, ?_⟩, ?_⟩
  · rw [Int32.lt_iff_toInt_lt]; omega
  · omega
theorem own_atx (vf : Nat → Int32) (r c : Int32) (h : ¬ r < 0 ∧ r < (16 : Int32)) (hc : c = (0 : Int32) ∨ c = (1 : Int32)) (d : Value) : (own_fl 32 vf).getD ((r * (2 : Int32)) + c).toNatClampNeg d = .int (vf (2 * r.toNatClampNeg + c.toNatClampNeg)) := by
  rw [(own_ix r c h hc).2]
  apply own_fl_get
  have l := own_lt16 h
  have ec : c.toNatClampNeg = 0 ∨ c.toNatClampNeg = 1 := by rcases hc with rfl | rfl <;> decide
  omega
theorem own_r1 {v : Int32} (h : v = (0 : Int32) ∨ v = (1 : Int32) ∨ v = (2 : Int32)) (h0 : ¬ v = (0 : Int32)) : ¬ (v - (1 : Int32)) < 0 ∧ (v - (1 : Int32)) < (16 : Int32) := by
  rcases h with rfl | rfl | rfl
  · exact absurd rfl h0
  · decide
  · decide
theorem own_capA {n : Int32} (h : n = (0 : Int32) ∨ n = (1 : Int32) ∨ n = (2 : Int32)) : ¬ (32 : Int32) < ((n + (1 : Int32)) * (2 : Int32)) := by rcases h with rfl | rfl | rfl <;> decide
theorem own_capB {n : Int32} (h : n = (0 : Int32) ∨ n = (1 : Int32) ∨ n = (2 : Int32)) : ¬ (16 : Int32) < ((n + (1 : Int32)) * (2 : Int32)) := by rcases h with rfl | rfl | rfl <;> decide
theorem own_cp (vf : Nat → Int32) (n x y : Int32) (h : n = (0 : Int32) ∨ n = (1 : Int32) ∨ n = (2 : Int32)) :
    ((own_fl 32 vf).take (n * (2 : Int32)).toNatClampNeg ++ [(.int x : Value), .int y] ++ (own_fl 32 vf).drop ((n * (2 : Int32)).toNatClampNeg + (2 : Int32).toNatClampNeg)) = own_fl 32 (fun q => if q = 2 * n.toNatClampNeg + 1 then y else if q = 2 * n.toNatClampNeg then x else vf q) := by
  rcases h with rfl | rfl | rfl <;> rfl
theorem own_cpd (n : Int32) (h : n = (0 : Int32) ∨ n = (1 : Int32) ∨ n = (2 : Int32)) : ¬ (n * (2 : Int32)) < 0 ∧ (n * (2 : Int32)).toNatClampNeg + (2 : Int32).toNatClampNeg ≤ (32 : Int32).toNatClampNeg := by rcases h with rfl | rfl | rfl <;> decide
theorem own_find1 (rf vf : Nat → Int32) (x y : Int32) (h : ∀ q, rf q = (0 : Int32)) : own_find rf vf x y 16 (own_h x y) = some (some (own_h x y)) := by
  rw [own_find_succ, if_pos (h _)]
theorem own_req_eq {vf : Nat → Int32} {r : Nat} {x y : Int32} (h1 : vf (2 * r) = x) (h2 : vf (2 * r + 1) = y) : ¬ own_req vf r x y = (0 : Int32) := by
  rw [own_req, if_pos h1, if_pos h2]; decide
theorem own_req_ne {vf : Nat → Int32} {r : Nat} {x y a b : Int32} (h1 : vf (2 * r) = a) (h2 : vf (2 * r + 1) = b) (h : ¬ (x = a ∧ y = b)) : own_req vf r x y = (0 : Int32) := by
  unfold own_req
  rw [h1, h2]
  by_cases q1 : a = x
  · by_cases q2 : b = y
    · exact absurd ⟨q1.symm, q2.symm⟩ h
    · rw [if_pos q1, if_neg q2]
  · rw [if_neg q1]
theorem own_find2 (rf vf : Nat → Int32) (a b c d : Int32) (p : Nat) (hp : p = own_h a b) (hr : ∀ q, rf q = if q = p then (1 : Int32) else (0 : Int32)) (h0 : vf 0 = a) (h1 : vf 1 = b) :
    (c = a ∧ d = b → own_find rf vf c d 16 (own_h c d) = some none) ∧ (¬ (c = a ∧ d = b) → ∃ p1, own_find rf vf c d 16 (own_h c d) = some (some p1) ∧ p1 ≠ p ∧ p1 < 16 ∧ (own_h c d = p1 ∨ (own_h c d = p ∧ p1 = (p + 1) % 16))) := by
  have hl := own_hlt a b; have hl2 := own_hlt c d
  have rp : rf p = (1 : Int32) := by rw [hr, if_pos rfl]
  have rz : ∀ q, q ≠ p → rf q = (0 : Int32) := fun q hq => by rw [hr, if_neg hq]
  have e : ((1 : Int32) - (1 : Int32)).toNatClampNeg = 0 := by decide
  have n1 : ¬ (1 : Int32) = (0 : Int32) := by decide
  constructor
  · rintro ⟨rfl, rfl⟩
    rw [← hp, own_find_succ, rp, if_neg n1, e, if_neg (own_req_eq h0 h1)]
  · intro hn
    by_cases q : own_h c d = p
    · refine ⟨(p + 1) % 16, ?_, by omega, by omega, Or.inr ⟨q, rfl⟩⟩
      rw [q, own_find_succ, rp, if_neg n1, e, if_pos (own_req_ne h0 h1 hn), own_find_succ, if_pos (rz _ (by omega))]
    · exact ⟨own_h c d, by rw [own_find_succ, if_pos (rz _ q)], q, hl2, Or.inl rfl⟩
theorem own_find3 (rf vf : Nat → Int32) (a b c d e f : Int32) (p p1 : Nat) (hp : p = own_h a b) (hne : p1 ≠ p) (hp1 : p1 < 16) (hh : own_h c d = p1 ∨ (own_h c d = p ∧ p1 = (p + 1) % 16)) (hr : ∀ q, rf q = if q = p1 then (2 : Int32) else if q = p then (1 : Int32) else (0 : Int32))
    (h0 : vf 0 = a) (h1 : vf 1 = b) (h2 : vf 2 = c) (h3 : vf 3 = d) :
    ((e = a ∧ f = b) ∨ (e = c ∧ f = d) → own_find rf vf e f 16 (own_h e f) = some none) ∧ (¬ (e = a ∧ f = b) → ¬ (e = c ∧ f = d) → ∃ p2, own_find rf vf e f 16 (own_h e f) = some (some p2)) := by
  have hl := own_hlt a b; have hl2 := own_hlt e f
  have rp : rf p = (1 : Int32) := by rw [hr, if_neg (fun z => hne z.symm), if_pos rfl]
  have rp1 : rf p1 = (2 : Int32) := by rw [hr, if_pos rfl]
  have rz : ∀ q, q ≠ p1 → q ≠ p → rf q = (0 : Int32) := fun q q1 q2 => by rw [hr, if_neg q1, if_neg q2]
  have e1 : ((1 : Int32) - (1 : Int32)).toNatClampNeg = 0 := by decide
  have e2 : ((2 : Int32) - (1 : Int32)).toNatClampNeg = 1 := by decide
  have n1 : ¬ (1 : Int32) = (0 : Int32) := by decide
  have n2 : ¬ (2 : Int32) = (0 : Int32) := by decide
  constructor
  · rintro (⟨rfl, rfl⟩ | ⟨rfl, rfl⟩)
    · rw [← hp, own_find_succ, rp, if_neg n1, e1, if_neg (own_req_eq h0 h1)]
    · rcases hh with q | ⟨q, q2⟩
      · rw [q, own_find_succ, rp1, if_neg n2, e2, if_neg (own_req_eq h2 h3)]
      · rw [q, own_find_succ, rp, if_neg n1, e1]
        by_cases z : own_req vf 0 e f = (0 : Int32)
        · rw [if_pos z, ← q2, own_find_succ, rp1, if_neg n2, e2, if_neg (own_req_eq h2 h3)]
        · rw [if_neg z]
  · intro hn1 hn2
    by_cases q : own_h e f = p
    · rw [q, own_find_succ, rp, if_neg n1, e1, if_pos (own_req_ne h0 h1 hn1)]
      by_cases z : (p + 1) % 16 = p1
      · rw [z, own_find_succ, rp1, if_neg n2, e2, if_pos (own_req_ne h2 h3 hn2), own_find_succ, if_pos (rz _ (by omega) (by omega))]
        exact ⟨_, rfl⟩
      · rw [own_find_succ, if_pos (rz _ z (by omega))]
        exact ⟨_, rfl⟩
    · by_cases q2 : own_h e f = p1
      · rw [q2, own_find_succ, rp1, if_neg n2, e2, if_pos (own_req_ne h2 h3 hn2)]
        by_cases z : (p1 + 1) % 16 = p
        · rw [z, own_find_succ, rp, if_neg n1, e1, if_pos (own_req_ne h0 h1 hn1), own_find_succ, if_pos (rz _ (by omega) (by omega))]
          exact ⟨_, rfl⟩
        · rw [own_find_succ, if_pos (rz _ (by omega) z)]
          exact ⟨_, rfl⟩
      · rw [own_find_succ, if_pos (rz _ q2 q)]
        exact ⟨_, rfl⟩
theorem own_tri (c1 c2 : Prop) [Decidable c1] [Decidable c2] : (if c1 then (2 : Int32) else if c2 then (1 : Int32) else (0 : Int32)) = (0 : Int32) ∨ (if c1 then (2 : Int32) else if c2 then (1 : Int32) else (0 : Int32)) = (1 : Int32) ∨ (if c1 then (2 : Int32) else if c2 then (1 : Int32) else (0 : Int32)) = (2 : Int32) := by
  by_cases h1 : c1
  · rw [if_pos h1]; simp
  · by_cases h2 : c2
    · rw [if_neg h1, if_pos h2]; simp
    · rw [if_neg h1, if_neg h2]; simp
def own_n1 (a b c d : Int32) : Int32 := if c = a then (if d = b then (0 : Int32) else (1 : Int32)) else (1 : Int32)
def own_n2 (a b c d e : Int32) : Int32 := if e = a then (0 : Int32) else if e = c then (if b = d then (0 : Int32) else (1 : Int32)) else (1 : Int32)
def own_st3 (a b c d e N : Int32) (vf : Nat → Int32) : Prop := N = (((1 : Int32) + own_n1 a b c d) + own_n2 a b c d e) ∧ vf 0 = a ∧ vf 1 = b ∧ (own_n1 a b c d = (1 : Int32) → vf 2 = c ∧ vf 3 = d) ∧
  (own_n2 a b c d e = (1 : Int32) → own_n1 a b c d = (1 : Int32) → vf 4 = e ∧ vf 5 = b) ∧ (own_n2 a b c d e = (1 : Int32) → ¬ own_n1 a b c d = (1 : Int32) → vf 2 = e ∧ vf 3 = b)
theorem own_n1v (a b c d : Int32) : (own_n1 a b c d = (0 : Int32) ∧ c = a ∧ d = b) ∨ (own_n1 a b c d = (1 : Int32) ∧ ¬ (c = a ∧ d = b)) := by
  unfold own_n1
  by_cases h1 : c = a
  · by_cases h2 : d = b
    · rw [if_pos h1, if_pos h2]; exact Or.inl ⟨rfl, h1, h2⟩
    · rw [if_pos h1, if_neg h2]; exact Or.inr ⟨rfl, fun q => h2 q.2⟩
  · rw [if_neg h1]; exact Or.inr ⟨rfl, fun q => h1 q.1⟩
theorem own_n2v (a b c d e : Int32) : (own_n2 a b c d e = (0 : Int32) ∧ ((e = a ∧ b = b) ∨ (e = c ∧ b = d))) ∨ (own_n2 a b c d e = (1 : Int32) ∧ ¬ (e = a ∧ b = b) ∧ ¬ (e = c ∧ b = d)) := by
  unfold own_n2
  by_cases h1 : e = a
  · rw [if_pos h1]; exact Or.inl ⟨rfl, Or.inl ⟨h1, rfl⟩⟩
  · by_cases h2 : e = c
    · by_cases h3 : b = d
      · rw [if_neg h1, if_pos h2, if_pos h3]; exact Or.inl ⟨rfl, Or.inr ⟨h2, h3⟩⟩
      · rw [if_neg h1, if_pos h2, if_neg h3]; exact Or.inr ⟨rfl, fun q => h1 q.1, fun q => h3 q.2⟩
    · rw [if_neg h1, if_neg h2]; exact Or.inr ⟨rfl, fun q => h1 q.1, fun q => h2 q.1⟩
theorem own_Nv {a b c d e N : Int32} {vf : Nat → Int32} (h : own_st3 a b c d e N vf) : N = (1 : Int32) ∨ N = (2 : Int32) ∨ N = (3 : Int32) := by
  obtain ⟨h, -⟩ := h
  rcases own_n1v a b c d with ⟨q, -⟩ | ⟨q, -⟩ <;> rcases own_n2v a b c d e with ⟨r, -⟩ | ⟨r, -⟩ <;> rw [q, r] at h <;> rw [h] <;> decide
theorem own_row {N : Int32} (x : Int32) (h : N = (1 : Int32) ∨ N = (2 : Int32) ∨ N = (3 : Int32)) : ¬ (((x.toUInt32 >>> ((1 : Int32) &&& 31).toUInt32).toInt32) % N) < 0 ∧ (((x.toUInt32 >>> ((1 : Int32) &&& 31).toUInt32).toInt32) % N) < N := by
  have u := c_iushr x (1 : Int32) 1 (by decide) (by decide)
  generalize ((x.toUInt32 >>> ((1 : Int32) &&& 31).toUInt32).toInt32) = w at *
  have r := rng32 x
  have eN : N.toInt = 1 ∨ N.toInt = 2 ∨ N.toInt = 3 := by rcases h with rfl | rfl | rfl <;> decide
  have q := (c_iremV w N).1 (by omega) (by omega)
  have e0 : (0 : Int32).toInt = 0 := by decide
  rw [Int32.lt_iff_toInt_lt, Int32.lt_iff_toInt_lt]
  omega
theorem own_col (x : Int32) : (x &&& (1 : Int32)) = (0 : Int32) ∨ (x &&& (1 : Int32)) = (1 : Int32) := and_one x
theorem own_colb {c : Int32} (h : c = (0 : Int32) ∨ c = (1 : Int32)) : ¬ c < 0 ∧ c < (2 : Int32) := by rcases h with rfl | rfl <;> decide
theorem own_rowb {N r : Int32} (h : N = (1 : Int32) ∨ N = (2 : Int32) ∨ N = (3 : Int32)) (hr : ¬ r < 0 ∧ r < N) : ¬ r < 0 ∧ r < (16 : Int32) := by
  refine ⟨hr.1, ?_⟩
  have q := hr.2
  have eN : N.toInt ≤ 3 := by rcases h with rfl | rfl | rfl <;> decide
  have e1 : (16 : Int32).toInt = 16 := by decide
  rw [Int32.lt_iff_toInt_lt] at q ⊢
  omega
theorem own_row2 {a b c d e N r : Int32} {vf : Nat → Int32} (h : own_st3 a b c d e N vf) (hr : ¬ r < 0 ∧ r < N) (h0 : ¬ r = (0 : Int32)) (h1 : ¬ r = (1 : Int32)) : r = (2 : Int32) ∧ own_n1 a b c d = (1 : Int32) ∧ own_n2 a b c d e = (1 : Int32) := by
  have hN := h.1
  have e0 : (0 : Int32).toInt = 0 := by decide
  have e1 : (1 : Int32).toInt = 1 := by decide
  have e2 : (2 : Int32).toInt = 2 := by decide
  have e3 : (3 : Int32).toInt = 3 := by decide
  have q := hr.1; have q2 := hr.2
  rw [Int32.lt_iff_toInt_lt] at q q2
  rw [← Int32.toInt_inj] at h0 h1
  rcases own_n1v a b c d with ⟨z, -⟩ | ⟨z, -⟩ <;> rcases own_n2v a b c d e with ⟨w, -⟩ | ⟨w, -⟩ <;> rw [z, w] at hN
  · have : N.toInt = 1 := by rw [hN]; decide
    omega
  · have : N.toInt = 2 := by rw [hN]; decide
    omega
  · have : N.toInt = 2 := by rw [hN]; decide
    omega
  · have : N.toInt = 3 := by rw [hN]; decide
    exact ⟨Int32.toInt_inj.mp (by omega), z, w⟩
theorem own_row1 {a b c d e N r : Int32} {vf : Nat → Int32} (h : own_st3 a b c d e N vf) (hr : ¬ r < 0 ∧ r < N) (h1 : r = (1 : Int32)) (hn : ¬ own_n1 a b c d = (1 : Int32)) : own_n2 a b c d e = (1 : Int32) := by
  have hN := h.1
  rcases own_n1v a b c d with ⟨z, -⟩ | ⟨z, -⟩
  · rcases own_n2v a b c d e with ⟨w, -⟩ | ⟨w, -⟩
    · rw [z, w] at hN
      have q := hr.2
      rw [h1, hN] at q
      exact absurd q (by decide)
    · exact w
  · exact absurd z hn

theorem own_d_jdk_71_method_1_code_0 : decode jdk_71_method_1_code 0 = .ok (.aload_n 0, 1) := by decide +kernel
theorem own_d_jdk_71_method_1_code_1 : decode jdk_71_method_1_code 1 = .ok (.invokespecial 1, 3) := by decide +kernel
theorem own_d_jdk_71_method_1_code_4 : decode jdk_71_method_1_code 4 = .ok (.return_, 1) := by decide +kernel
theorem own_ef_own_am (m : MethodId) (x0 : Addr) : entryFrame m #[(.ref x0)] 1 = mkF m 0 #[.val (.ref x0)] [] := by first | (simp [entryFrame, mkF, argsToLocals, Value.category]; done) | rfl
def own_Q_own_am (Z : State) (a : Addr) (h0 : Heap) (n0 : Nat) (v : Option Value) (h : Heap) (L : List Loc) : Prop := (v = none) ∧ (Fr n0 L) ∧ (h = h0)
theorem own_pn452804412 : plainName "java/util/AbstractMap" = true := by first | (simp [plainName, overriddenIn]; done) | decide +kernel
set_option maxRecDepth 65536 in
set_option maxHeartbeats 40000000 in
theorem own_am (l : Launch) (Z : State) (a0 : Array Value) (hw : ∀ d ∈ tables_1, d.before a0 Z = true) (ws : List Jvm.Cond) (a : Addr) (h0 : Heap) (n0 : Nat) (Z0 : n0 ≤ h0.size) :
    MetFree l (⟨"java/util/AbstractMap", "<init>", "()V"⟩ : MethodName) (head1 (Jvm.Cond.code (⟨"java/util/AbstractMap", "<init>", "()V"⟩ : MethodName) jdk_71_method_1_code 1 none :: ws) ({ frames := 1, cells := 0, slots := 0, locals := 12 } : Room)) (fun xa xU => xa = #[(.ref a)] ∧ Z.Warmed39 xU.vm ∧ xU.heap = h0) (fun _ _ _ _ _ => True) (fun _ xU xo xV => ∃ v L, xo = .returned v ∧ own_Q_own_am Z a h0 n0 v xV.heap L ∧ FrameEnd xU xo xV L ({ frames := 1, cells := 0, slots := 0, locals := 12 } : Room).cells ({ frames := 1, cells := 0, slots := 0, locals := 12 } : Room).slots) := by
  refine MetFree.of_bodySF (plainFor_of_name own_pn452804412) hisR ?_
  intro p e s m args below meth c s₁ Bd hml0 hP hK
  obtain ⟨rfl, hZ, hh⟩ := hP
  have hx := Bd.exec
  have hby := Bd.bytes
  have hlk := Bd.notSynchronized
  have hret := Bd.returns
  have hml : c.maxLocals = 1 := hml0
  have hown : s.vm.findClass "java/util/AbstractMap" = some m.cls := findClass_of_methodNamed Bd.named
  have hnm := (name_of_methodNamed Bd.named Bd.method).1
  have X0 : Stand p l e ({ frames := 1, cells := 0, slots := 0, locals := 12 } : Room) s m #[(.ref a)] below meth c s₁ [] 0 0 := Stand.of_body Bd
  have e0 : s₁.heap = h0 := by rw [← hh, Bd.state]; rfl
  have N0 := Fr.nil n0
  show own_Gl p e below s (own_Q_own_am Z a h0 n0) ({ frames := 1, cells := 0, slots := 0, locals := 12 } : Room).cells ({ frames := 1, cells := 0, slots := 0, locals := 12 } : Room).slots _
  refine own_cast (own_ef_own_am m a) ?_
  show own_Gl _ _ _ _ _ _ _ (s₁.setTop (mkF m 0 #[.val (.ref a)] []))
  refine own_st (fun _ k => XS.aloadN X0.here hx rfl (hb hby own_d_jdk_71_method_1_code_0) rfl rfl k) ?_
  show own_Gl _ _ _ _ _ _ _ (s₁.setTop (mkF m 1 #[.val (.ref a)] [(.ref a)]))
  obtain ⟨T1, X1, e1, st1⟩ := initO X0 hx hZ hown (hw _ (List.mem_of_getElem? (i := 24) rfl)) (hw _ (List.mem_of_getElem? (i := 7) rfl)) (hw _ (List.mem_of_getElem? (i := 8) rfl)) e0 (g := (mkF m 1 #[.val (.ref a)] [(.ref a)])) rfl (by rw [hml]; rfl) rfl (hb hby own_d_jdk_71_method_1_code_1) (by decide) (W := 0) (by show 2 * 0 + _ ≤ _; exact Nat.le_of_eq rfl) (by decide)
  refine own_st st1 ?_
  show own_Gl _ _ _ _ _ _ _ (T1.setTop (mkF m 4 #[.val (.ref a)] []))
  exact own_retV X1 hx hlk hret (hb hby own_d_jdk_71_method_1_code_4) e1 ⟨rfl, N0, rfl⟩ (by decide) (by decide)
theorem own_d_jdk_69_method_7_code_0 : decode jdk_69_method_7_code 0 = .ok (.aload_n 0, 1) := by decide +kernel
theorem own_d_jdk_69_method_7_code_1 : decode jdk_69_method_7_code 1 = .ok (.invokespecial 43, 3) := by decide +kernel
theorem own_pd691897 : parseMethodDescriptor "()V" = some ⟨[], none⟩ := by decide +kernel
theorem own_d_jdk_69_method_7_code_4 : decode jdk_69_method_7_code 4 = .ok (.aload_n 0, 1) := by decide +kernel
theorem own_d_jdk_69_method_7_code_5 : decode jdk_69_method_7_code 5 = .ok (.ldc 92, 2) := by decide +kernel
theorem own_d_jdk_69_method_7_code_7 : decode jdk_69_method_7_code 7 = .ok (.putfield 81, 3) := by decide +kernel
theorem own_d_jdk_69_method_7_code_10 : decode jdk_69_method_7_code 10 = .ok (.return_, 1) := by decide +kernel
theorem own_ef_own_hminit (m : MethodId) (x0 : Addr) : entryFrame m #[(.ref x0)] 1 = mkF m 0 #[.val (.ref x0)] [] := by first | (simp [entryFrame, mkF, argsToLocals, Value.category]; done) | rfl
def own_Q_own_hminit (Z : State) (a : Addr) (h0 : Heap) (n0 : Nat) (v : Option Value) (h : Heap) (L : List Loc) : Prop := (v = none) ∧ (Fr n0 L) ∧ (Keep h0 h [a]) ∧ (Fld Z h a "java/util/HashMap" "modCount" "I" (.int (0 : Int32))) ∧ (Fld Z h a "java/util/HashMap" "table" "[Ljava/util/HashMap$Node;" .null)
theorem own_pn83796840 : plainName "java/util/HashMap" = true := by first | (simp [plainName, overriddenIn]; done) | decide +kernel
set_option maxRecDepth 65536 in
set_option maxHeartbeats 40000000 in
theorem own_hminit (l : Launch) (Z : State) (a0 : Array Value) (hw : ∀ d ∈ tables_1, d.before a0 Z = true) (ws : List Jvm.Cond) (a : Addr) (h0 : Heap) (n0 : Nat) (Z0 : n0 ≤ h0.size) (E_a : Exa Z h0 a "java/util/HashMap") (F_a_loadFactor : Fld Z h0 a "java/util/HashMap" "loadFactor" "F" (.float (0 : UInt32))) (F_a_modCount : Fld Z h0 a "java/util/HashMap" "modCount" "I" (.int (0 : Int32))) (F_a_table : Fld Z h0 a "java/util/HashMap" "table" "[Ljava/util/HashMap$Node;" .null) (g_a : n0 ≤ a) :
    MetFree l (⟨"java/util/HashMap", "<init>", "()V"⟩ : MethodName) (head1 (Jvm.Cond.code (⟨"java/util/HashMap", "<init>", "()V"⟩ : MethodName) jdk_69_method_7_code 1 none :: ws) ({ frames := 2, cells := 0, slots := 0, locals := 24 } : Room)) (fun xa xU => xa = #[(.ref a)] ∧ Z.Warmed39 xU.vm ∧ xU.heap = h0) (fun _ _ _ _ _ => True) (fun _ xU xo xV => ∃ v L, xo = .returned v ∧ own_Q_own_hminit Z a h0 n0 v xV.heap L ∧ FrameEnd xU xo xV L ({ frames := 2, cells := 0, slots := 0, locals := 24 } : Room).cells ({ frames := 2, cells := 0, slots := 0, locals := 24 } : Room).slots) := by
  refine MetFree.of_bodySF (plainFor_of_name own_pn83796840) hisR ?_
  intro p e s m args below meth c s₁ Bd hml0 hP hK
  obtain ⟨rfl, hZ, hh⟩ := hP
  have hx := Bd.exec
  have hby := Bd.bytes
  have hlk := Bd.notSynchronized
  have hret := Bd.returns
  have hml : c.maxLocals = 1 := hml0
  have hown : s.vm.findClass "java/util/HashMap" = some m.cls := findClass_of_methodNamed Bd.named
  have hnm := (name_of_methodNamed Bd.named Bd.method).1
  have X0 : Stand p l e ({ frames := 2, cells := 0, slots := 0, locals := 24 } : Room) s m #[(.ref a)] below meth c s₁ [] 0 0 := Stand.of_body Bd
  have e0 : s₁.heap = h0 := by rw [← hh, Bd.state]; rfl
  have N0 := Fr.nil n0
  show own_Gl p e below s (own_Q_own_hminit Z a h0 n0) ({ frames := 2, cells := 0, slots := 0, locals := 24 } : Room).cells ({ frames := 2, cells := 0, slots := 0, locals := 24 } : Room).slots _
  refine own_cast (own_ef_own_hminit m a) ?_
  show own_Gl _ _ _ _ _ _ _ (s₁.setTop (mkF m 0 #[.val (.ref a)] []))
  refine own_st (fun _ k => XS.aloadN X0.here hx rfl (hb hby own_d_jdk_69_method_7_code_0) rfl rfl k) ?_
  show own_Gl _ _ _ _ _ _ _ (s₁.setTop (mkF m 1 #[.val (.ref a)] [(.ref a)]))
  obtain ⟨_, _, ⟨T1, L1, k1, n1⟩, -, X1, ⟨Lc1, hQ1, l1, y1, z1⟩, st1⟩ := X0.specialBack hx (y := (⟨"java/util/AbstractMap", "<init>", "()V"⟩ : MethodName)) rfl hown (mvT hZ (hw _ (List.mem_of_getElem? (i := 18) rfl))) (mvT hZ (hw _ (List.mem_of_getElem? (i := 19) rfl))) (mvT hZ (hw _ (List.mem_of_getElem? (i := 23) rfl))) (by decide) (backOf (W := 0) (own_am l Z a0 hw [] a h0 n0 Z0 ) hZ (hw _ (List.mem_of_getElem? (i := 23) rfl)) (hw _ (List.mem_of_getElem? (i := 22) rfl)) (by decide) (by decide)) (g := (mkF m 1 #[.val (.ref a)] [(.ref a)])) rfl (by rw [hml]; rfl) (Steps.refl _) (a := a) (argsL := []) (rest := []) (lenOf own_pd691897 rfl) rfl (by show 2 * 0 + _ ≤ _; exact Nat.le_of_eq rfl) (hb hby own_d_jdk_69_method_7_code_1) (fun _ _ => ⟨rfl, e0, (by decide : 0 + 0 ≤ ({ frames := 2, cells := 0, slots := 0, locals := 24 } : Room).cells), (by decide : 0 + 0 ≤ ({ frames := 2, cells := 0, slots := 0, locals := 24 } : Room).slots)⟩)
  dsimp only [Pt.U, Pt.locs, Pt.cells, Pt.slots] at X1 l1 y1 z1 st1 hQ1
  subst l1 y1 z1
  obtain ⟨hh1, eh01⟩ : ∃ z, T1.heap = z := ⟨_, rfl⟩
  rw [eh01] at hQ1
  obtain ⟨rfl, Nq1, eh1⟩ := hQ1
  have N1 := Fr.app N0 Nq1
  refine own_tr st1 ?_
  have e1 : T1.heap = h0 := eh01.trans eh1
  show own_Gl _ _ _ _ _ _ _ (T1.setTop (mkF m 4 #[.val (.ref a)] []))
  refine own_st (fun _ k => XS.aloadN X1.here hx rfl (hb hby own_d_jdk_69_method_7_code_4) rfl rfl k) ?_
  show own_Gl _ _ _ _ _ _ _ (T1.setTop (mkF m 5 #[.val (.ref a)] [(.ref a)]))
  refine own_st (X1.ldcFloatC hx hown (mvT hZ (hw _ (List.mem_of_getElem? (i := 25) rfl))) (g := (mkF m 5 #[.val (.ref a)] [(.ref a)])) rfl (hb hby own_d_jdk_69_method_7_code_5)) ?_
  show own_Gl _ _ _ _ _ _ _ (T1.setTop (mkF m 7 #[.val (.ref a)] [(.float (1061158912 : UInt32)), (.ref a)]))
  obtain ⟨T2, h2, X2, e2, W2, st2⟩ := putF X1 hx hZ hown (host := "") (Or.inl (hw _ (List.mem_of_getElem? (i := 26) rfl))) Via.refl e1 F_a_loadFactor E_a (Or.inr ⟨(hw _ (List.mem_of_getElem? (i := 27) rfl)), rfl, hnm⟩) (hw _ (List.mem_of_getElem? (i := 13) rfl)) (ty := .float) (by decide) rfl rfl (g := (mkF m 7 #[.val (.ref a)] [(.float (1061158912 : UInt32)), (.ref a)])) rfl rfl (hb hby own_d_jdk_69_method_7_code_7)
  have N2 := Fr.snoc X2 N1 g_a
  refine own_st st2 ?_
  have Zs3 : n0 ≤ h2.size := Nat.le_trans Z0 (Keep.of_wr W2).1
  have Fw2 := F_a_loadFactor.same W2
  show own_Gl _ _ _ _ _ _ _ (T2.setTop (mkF m 10 #[.val (.ref a)] []))
  have K4 : Keep h0 h2 [a] := ((Keep.refl h0 [a]).wr W2 (Or.inl (List.mem_of_getElem? (i := 0) rfl)))
  have f5 := (F_a_modCount.other W2 (Or.inr (slot_ne (Or.inl (hw _ (List.mem_of_getElem? (i := 65) rfl))) (Or.inr (hw _ (List.mem_of_getElem? (i := 27) rfl))) (by decide) (t := .int) (t' := .float) (by decide) (by decide))))
  have f6 := (F_a_table.other W2 (Or.inr (slot_ne (Or.inl (hw _ (List.mem_of_getElem? (i := 67) rfl))) (Or.inr (hw _ (List.mem_of_getElem? (i := 27) rfl))) (by decide) (t := (.array (.object "java/util/HashMap$Node"))) (t' := .float) (by decide) (by decide))))
  exact own_retV X2 hx hlk hret (hb hby own_d_jdk_69_method_7_code_10) e2 ⟨rfl, N2, K4, f5, f6⟩ (by decide) (by decide)
theorem own_d_jdk_69_method_22_code_0 : decode jdk_69_method_22_code 0 = .ok (.aload_n 0, 1) := by decide +kernel
theorem own_d_jdk_69_method_22_code_1 : decode jdk_69_method_22_code 1 = .ok (.dup, 1) := by decide +kernel
theorem own_d_jdk_69_method_22_code_2 : decode jdk_69_method_22_code 2 = .ok (.getfield 202, 3) := by decide +kernel
theorem own_d_jdk_69_method_22_code_5 : decode jdk_69_method_22_code 5 = .ok (.iconst 1, 1) := by decide +kernel
theorem own_d_jdk_69_method_22_code_6 : decode jdk_69_method_22_code 6 = .ok (.iadd, 1) := by decide +kernel
theorem own_d_jdk_69_method_22_code_7 : decode jdk_69_method_22_code 7 = .ok (.putfield 202, 3) := by decide +kernel
theorem own_d_jdk_69_method_22_code_10 : decode jdk_69_method_22_code 10 = .ok (.aload_n 0, 1) := by decide +kernel
theorem own_d_jdk_69_method_22_code_11 : decode jdk_69_method_22_code 11 = .ok (.getfield 105, 3) := by decide +kernel
theorem own_d_jdk_69_method_22_code_14 : decode jdk_69_method_22_code 14 = .ok (.dup, 1) := by decide +kernel
theorem own_d_jdk_69_method_22_code_15 : decode jdk_69_method_22_code 15 = .ok (.astore_n 1, 1) := by decide +kernel
theorem own_d_jdk_69_method_22_code_16 : decode jdk_69_method_22_code 16 = .ok (.ifnull 33, 3) := by decide +kernel
theorem own_d_jdk_69_method_22_code_49 : decode jdk_69_method_22_code 49 = .ok (.return_, 1) := by decide +kernel
theorem own_ef_own_clear (m : MethodId) (x0 : Addr) : entryFrame m #[(.ref x0)] 3 = mkF m 0 #[.val (.ref x0), .unset, .unset] [] := by first | (simp [entryFrame, mkF, argsToLocals, Value.category]; done) | rfl
def own_Q_own_clear (Z : State) (a : Addr) (mc : Int32) (h0 : Heap) (n0 : Nat) (v : Option Value) (h : Heap) (L : List Loc) : Prop := (v = none) ∧ (Fr n0 L) ∧ (Keep h0 h [a]) ∧ (Fld Z h a "java/util/HashMap" "modCount" "I" (.int (mc + (1 : Int32)))) ∧ (Fld Z h a "java/util/HashMap" "table" "[Ljava/util/HashMap$Node;" .null)
set_option maxRecDepth 65536 in
set_option maxHeartbeats 40000000 in
theorem own_clear (l : Launch) (Z : State) (a0 : Array Value) (hw : ∀ d ∈ tables_1, d.before a0 Z = true) (ws : List Jvm.Cond) (a : Addr) (mc : Int32) (h0 : Heap) (n0 : Nat) (Z0 : n0 ≤ h0.size) (E_a : Exa Z h0 a "java/util/HashMap") (F_a_modCount : Fld Z h0 a "java/util/HashMap" "modCount" "I" (.int mc)) (F_a_table : Fld Z h0 a "java/util/HashMap" "table" "[Ljava/util/HashMap$Node;" .null) (g_a : n0 ≤ a) :
    MetFree l (⟨"java/util/HashMap", "clear", "()V"⟩ : MethodName) (head1 (Jvm.Cond.code (⟨"java/util/HashMap", "clear", "()V"⟩ : MethodName) jdk_69_method_22_code 3 none :: ws) ({ frames := 0, cells := 0, slots := 0, locals := 0 } : Room)) (fun xa xU => xa = #[(.ref a)] ∧ Z.Warmed39 xU.vm ∧ xU.heap = h0) (fun _ _ _ _ _ => True) (fun _ xU xo xV => ∃ v L, xo = .returned v ∧ own_Q_own_clear Z a mc h0 n0 v xV.heap L ∧ FrameEnd xU xo xV L ({ frames := 0, cells := 0, slots := 0, locals := 0 } : Room).cells ({ frames := 0, cells := 0, slots := 0, locals := 0 } : Room).slots) := by
  refine MetFree.of_bodySF (plainFor_of_name own_pn83796840) hisR ?_
  intro p e s m args below meth c s₁ Bd hml0 hP hK
  obtain ⟨rfl, hZ, hh⟩ := hP
  have hx := Bd.exec
  have hby := Bd.bytes
  have hlk := Bd.notSynchronized
  have hret := Bd.returns
  have hml : c.maxLocals = 3 := hml0
  have hown : s.vm.findClass "java/util/HashMap" = some m.cls := findClass_of_methodNamed Bd.named
  have hnm := (name_of_methodNamed Bd.named Bd.method).1
  have X0 : Stand p l e ({ frames := 0, cells := 0, slots := 0, locals := 0 } : Room) s m #[(.ref a)] below meth c s₁ [] 0 0 := Stand.of_body Bd
  have e0 : s₁.heap = h0 := by rw [← hh, Bd.state]; rfl
  have N0 := Fr.nil n0
  show own_Gl p e below s (own_Q_own_clear Z a mc h0 n0) ({ frames := 0, cells := 0, slots := 0, locals := 0 } : Room).cells ({ frames := 0, cells := 0, slots := 0, locals := 0 } : Room).slots _
  refine own_cast (own_ef_own_clear m a) ?_
  show own_Gl _ _ _ _ _ _ _ (s₁.setTop (mkF m 0 #[.val (.ref a), .unset, .unset] []))
  refine own_st (fun _ k => XS.aloadN X0.here hx rfl (hb hby own_d_jdk_69_method_22_code_0) rfl rfl k) ?_
  show own_Gl _ _ _ _ _ _ _ (s₁.setTop (mkF m 1 #[.val (.ref a), .unset, .unset] [(.ref a)]))
  refine own_st (fun _ k => XS.dup X0.here hx rfl (hb hby own_d_jdk_69_method_22_code_1) rfl rfl k) ?_
  show own_Gl _ _ _ _ _ _ _ (s₁.setTop (mkF m 2 #[.val (.ref a), .unset, .unset] [(.ref a), (.ref a)]))
  obtain ⟨T1, X1, e1, st1⟩ := getF X0 hx hZ hown (host := "") (Or.inl (hw _ (List.mem_of_getElem? (i := 64) rfl))) Via.refl e0 F_a_modCount (g := (mkF m 2 #[.val (.ref a), .unset, .unset] [(.ref a), (.ref a)])) rfl rfl (hb hby own_d_jdk_69_method_22_code_2)
  refine own_st st1 ?_
  show own_Gl _ _ _ _ _ _ _ (T1.setTop (mkF m 5 #[.val (.ref a), .unset, .unset] [(.int mc), (.ref a)]))
  refine own_st (fun _ k => XS.iconst X1.here hx rfl (hb hby own_d_jdk_69_method_22_code_5) k) ?_
  show own_Gl _ _ _ _ _ _ _ (T1.setTop (mkF m 6 #[.val (.ref a), .unset, .unset] [(.int (1 : Int32)), (.int mc), (.ref a)]))
  refine own_st (fun _ k => XS.iadd X1.here hx rfl (hb hby own_d_jdk_69_method_22_code_6) rfl k) ?_
  show own_Gl _ _ _ _ _ _ _ (T1.setTop (mkF m 7 #[.val (.ref a), .unset, .unset] [(.int (mc + (1 : Int32))), (.ref a)]))
  obtain ⟨T2, h2, X2, e2, W2, st2⟩ := putF X1 hx hZ hown (host := "") (Or.inl (hw _ (List.mem_of_getElem? (i := 64) rfl))) Via.refl e1 F_a_modCount E_a (Or.inl (hw _ (List.mem_of_getElem? (i := 65) rfl))) (hw _ (List.mem_of_getElem? (i := 13) rfl)) (ty := .int) (by decide) rfl rfl (g := (mkF m 7 #[.val (.ref a), .unset, .unset] [(.int (mc + (1 : Int32))), (.ref a)])) rfl rfl (hb hby own_d_jdk_69_method_22_code_7)
  have N2 := Fr.snoc X2 N0 g_a
  refine own_st st2 ?_
  have Zs3 : n0 ≤ h2.size := Nat.le_trans Z0 (Keep.of_wr W2).1
  have Fw2 := F_a_modCount.same W2
  show own_Gl _ _ _ _ _ _ _ (T2.setTop (mkF m 10 #[.val (.ref a), .unset, .unset] []))
  refine own_st (fun _ k => XS.aloadN X2.here hx rfl (hb hby own_d_jdk_69_method_22_code_10) rfl rfl k) ?_
  show own_Gl _ _ _ _ _ _ _ (T2.setTop (mkF m 11 #[.val (.ref a), .unset, .unset] [(.ref a)]))
  have f4 := (F_a_table.other W2 (Or.inr (slot_ne (Or.inl (hw _ (List.mem_of_getElem? (i := 67) rfl))) (Or.inl (hw _ (List.mem_of_getElem? (i := 65) rfl))) (by decide) (t := (.array (.object "java/util/HashMap$Node"))) (t' := .int) (by decide) (by decide))))
  obtain ⟨T5, X5, e5, st5⟩ := getF X2 hx hZ hown (host := "") (Or.inl (hw _ (List.mem_of_getElem? (i := 66) rfl))) Via.refl e2 f4 (g := (mkF m 11 #[.val (.ref a), .unset, .unset] [(.ref a)])) rfl rfl (hb hby own_d_jdk_69_method_22_code_11)
  refine own_st st5 ?_
  show own_Gl _ _ _ _ _ _ _ (T5.setTop (mkF m 14 #[.val (.ref a), .unset, .unset] [.null]))
  refine own_st (fun _ k => XS.dup X5.here hx rfl (hb hby own_d_jdk_69_method_22_code_14) rfl rfl k) ?_
  show own_Gl _ _ _ _ _ _ _ (T5.setTop (mkF m 15 #[.val (.ref a), .unset, .unset] [.null, .null]))
  refine own_st (fun _ k => XS.astoreN X5.here hx rfl (hb hby own_d_jdk_69_method_22_code_15) rfl rfl (l' := #[.val (.ref a), .val .null, .unset]) rfl k) ?_
  show own_Gl _ _ _ _ _ _ _ (T5.setTop (mkF m 16 #[.val (.ref a), .val .null, .unset] [.null]))
  refine own_st (fun _ k => XS.ifnullYes X5.here hx rfl (pc0 := 16) (pc' := 49) rfl (hb hby own_d_jdk_69_method_22_code_16) rfl (by decide) (by decide) k) ?_
  show own_Gl _ _ _ _ _ _ _ (T5.setTop (mkF m 49 #[.val (.ref a), .val .null, .unset] []))
  have K6 : Keep h0 h2 [a] := ((Keep.refl h0 [a]).wr W2 (Or.inl (List.mem_of_getElem? (i := 0) rfl)))
  exact own_retV X5 hx hlk hret (hb hby own_d_jdk_69_method_22_code_49) e5 ⟨rfl, N2, K6, Fw2, f4⟩ (by decide) (by decide)
theorem own_d_jdk_29_method_65_code_0 : decode jdk_29_method_65_code 0 = .ok (.iload_n 0, 1) := by decide +kernel
theorem own_d_jdk_29_method_65_code_1 : decode jdk_29_method_65_code 1 = .ok (.iload_n 1, 1) := by decide +kernel
theorem own_d_jdk_29_method_65_code_2 : decode jdk_29_method_65_code 2 = .ok (.if_icmp .lt 7, 3) := by decide +kernel
theorem own_d_jdk_29_method_65_code_5 : decode jdk_29_method_65_code 5 = .ok (.iload_n 0, 1) := by decide +kernel
theorem own_d_jdk_29_method_65_code_6 : decode jdk_29_method_65_code 6 = .ok (.goto 4, 3) := by decide +kernel
theorem own_d_jdk_29_method_65_code_10 : decode jdk_29_method_65_code 10 = .ok (.ireturn, 1) := by decide +kernel
theorem own_ef_own_max (m : MethodId) (x0 : Int32) (x1 : Int32) : entryFrame m #[(.int x0), (.int x1)] 2 = mkF m 0 #[.val (.int x0), .val (.int x1)] [] := by first | (simp [entryFrame, mkF, argsToLocals, Value.category]; done) | rfl
def own_Q_own_max (Z : State)  (h0 : Heap) (n0 : Nat) (v : Option Value) (h : Heap) (L : List Loc) : Prop := (v = some (.int (2 : Int32))) ∧ (Fr n0 L) ∧ (h = h0)
set_option maxRecDepth 65536 in
set_option maxHeartbeats 40000000 in
theorem own_max (l : Launch) (Z : State) (a0 : Array Value) (hw : ∀ d ∈ tables_1, d.before a0 Z = true) (ws : List Jvm.Cond)  (h0 : Heap) (n0 : Nat) (Z0 : n0 ≤ h0.size) :
    MetFree l (⟨"java/lang/Math", "max", "(II)I"⟩ : MethodName) (head1 (Jvm.Cond.code (⟨"java/lang/Math", "max", "(II)I"⟩ : MethodName) jdk_29_method_65_code 2 (some .int) :: ws) ({ frames := 0, cells := 0, slots := 0, locals := 0 } : Room)) (fun xa xU => xa = #[(.int (2 : Int32)), (.int (1 : Int32))] ∧ Z.Warmed39 xU.vm ∧ xU.heap = h0) (fun _ _ _ _ _ => True) (fun _ xU xo xV => ∃ v L, xo = .returned v ∧ own_Q_own_max Z  h0 n0 v xV.heap L ∧ FrameEnd xU xo xV L ({ frames := 0, cells := 0, slots := 0, locals := 0 } : Room).cells ({ frames := 0, cells := 0, slots := 0, locals := 0 } : Room).slots) := by
  refine MetFree.of_bodySF (Jvm.Free.JP.mathPlain rfl (by decide +kernel)) hisR ?_
  intro p e s m args below meth c s₁ Bd hml0 hP hK
  obtain ⟨rfl, hZ, hh⟩ := hP
  have hx := Bd.exec
  have hby := Bd.bytes
  have hlk := Bd.notSynchronized
  have hret := Bd.returns
  have hml : c.maxLocals = 2 := hml0
  have hown : s.vm.findClass "java/lang/Math" = some m.cls := findClass_of_methodNamed Bd.named
  have hnm := (name_of_methodNamed Bd.named Bd.method).1
  have X0 : Stand p l e ({ frames := 0, cells := 0, slots := 0, locals := 0 } : Room) s m #[(.int (2 : Int32)), (.int (1 : Int32))] below meth c s₁ [] 0 0 := Stand.of_body Bd
  have e0 : s₁.heap = h0 := by rw [← hh, Bd.state]; rfl
  have N0 := Fr.nil n0
  show own_Gl p e below s (own_Q_own_max Z  h0 n0) ({ frames := 0, cells := 0, slots := 0, locals := 0 } : Room).cells ({ frames := 0, cells := 0, slots := 0, locals := 0 } : Room).slots _
  refine own_cast (own_ef_own_max m (2 : Int32) (1 : Int32)) ?_
  show own_Gl _ _ _ _ _ _ _ (s₁.setTop (mkF m 0 #[.val (.int (2 : Int32)), .val (.int (1 : Int32))] []))
  refine own_st (fun _ k => XS.iloadN X0.here hx rfl (hb hby own_d_jdk_29_method_65_code_0) rfl k) ?_
  show own_Gl _ _ _ _ _ _ _ (s₁.setTop (mkF m 1 #[.val (.int (2 : Int32)), .val (.int (1 : Int32))] [(.int (2 : Int32))]))
  refine own_st (fun _ k => XS.iloadN X0.here hx rfl (hb hby own_d_jdk_29_method_65_code_1) rfl k) ?_
  show own_Gl _ _ _ _ _ _ _ (s₁.setTop (mkF m 2 #[.val (.int (2 : Int32)), .val (.int (1 : Int32))] [(.int (1 : Int32)), (.int (2 : Int32))]))
  have hd1 : ¬ ((2 : Int32) < (1 : Int32)) := (by decide)
  refine own_st (fun _ k => XS.icmpNo X0.here hx rfl (hb hby own_d_jdk_29_method_65_code_2) rfl (flt hd1).1 k) ?_
  show own_Gl _ _ _ _ _ _ _ (s₁.setTop (mkF m 5 #[.val (.int (2 : Int32)), .val (.int (1 : Int32))] []))
  refine own_st (fun _ k => XS.iloadN X0.here hx rfl (hb hby own_d_jdk_29_method_65_code_5) rfl k) ?_
  show own_Gl _ _ _ _ _ _ _ (s₁.setTop (mkF m 6 #[.val (.int (2 : Int32)), .val (.int (1 : Int32))] [(.int (2 : Int32))]))
  refine own_st (fun _ k => XS.goto X0.here hx rfl (pc0 := 6) (pc' := 10) rfl (hb hby own_d_jdk_29_method_65_code_6) (by decide) (by decide) k) ?_
  show own_Gl _ _ _ _ _ _ _ (s₁.setTop (mkF m 10 #[.val (.int (2 : Int32)), .val (.int (1 : Int32))] [(.int (2 : Int32))]))
  exact own_retI X0 hx hlk hret (hb hby own_d_jdk_29_method_65_code_10) e0 ⟨rfl, N0, rfl⟩ (by decide) (by decide)
theorem own_d_prog_7_method_1_code_0 : decode prog_7_method_1_code 0 = .ok (.aload_n 0, 1) := by decide +kernel
theorem own_d_prog_7_method_1_code_1 : decode prog_7_method_1_code 1 = .ok (.invokespecial 1, 3) := by decide +kernel
theorem own_d_prog_7_method_1_code_4 : decode prog_7_method_1_code 4 = .ok (.aload_n 0, 1) := by decide +kernel
theorem own_d_prog_7_method_1_code_5 : decode prog_7_method_1_code 5 = .ok (.bipush 16, 2) := by decide +kernel
theorem own_d_prog_7_method_1_code_7 : decode prog_7_method_1_code 7 = .ok (.newarray .int, 2) := by decide +kernel
theorem own_d_prog_7_method_1_code_9 : decode prog_7_method_1_code 9 = .ok (.putfield 7, 3) := by decide +kernel
theorem own_d_prog_7_method_1_code_12 : decode prog_7_method_1_code 12 = .ok (.aload_n 0, 1) := by decide +kernel
theorem own_d_prog_7_method_1_code_13 : decode prog_7_method_1_code 13 = .ok (.new 13, 3) := by decide +kernel
theorem own_d_prog_7_method_1_code_16 : decode prog_7_method_1_code 16 = .ok (.dup, 1) := by decide +kernel
theorem own_d_prog_7_method_1_code_17 : decode prog_7_method_1_code 17 = .ok (.invokespecial 15, 3) := by decide +kernel
theorem own_d_prog_7_method_1_code_20 : decode prog_7_method_1_code 20 = .ok (.putfield 16, 3) := by decide +kernel
theorem own_d_prog_7_method_1_code_23 : decode prog_7_method_1_code 23 = .ok (.aload_n 0, 1) := by decide +kernel
theorem own_d_prog_7_method_1_code_24 : decode prog_7_method_1_code 24 = .ok (.iload_n 1, 1) := by decide +kernel
theorem own_d_prog_7_method_1_code_25 : decode prog_7_method_1_code 25 = .ok (.putfield 20, 3) := by decide +kernel
theorem own_d_prog_7_method_1_code_28 : decode prog_7_method_1_code 28 = .ok (.aload_n 0, 1) := by decide +kernel
theorem own_d_prog_7_method_1_code_29 : decode prog_7_method_1_code 29 = .ok (.bipush 16, 2) := by decide +kernel
theorem own_d_prog_7_method_1_code_31 : decode prog_7_method_1_code 31 = .ok (.iload_n 1, 1) := by decide +kernel
theorem own_d_prog_7_method_1_code_32 : decode prog_7_method_1_code 32 = .ok (.iconst 1, 1) := by decide +kernel
theorem own_d_prog_7_method_1_code_33 : decode prog_7_method_1_code 33 = .ok (.invokestatic 24, 3) := by decide +kernel
theorem own_pd945365680 : parseMethodDescriptor "(II)I" = some ⟨[.int, .int], some .int⟩ := by decide +kernel
theorem own_d_prog_7_method_1_code_36 : decode prog_7_method_1_code 36 = .ok (.imul, 1) := by decide +kernel
theorem own_d_prog_7_method_1_code_37 : decode prog_7_method_1_code 37 = .ok (.newarray .int, 2) := by decide +kernel
theorem own_d_prog_7_method_1_code_39 : decode prog_7_method_1_code 39 = .ok (.putfield 30, 3) := by decide +kernel
theorem own_d_prog_7_method_1_code_42 : decode prog_7_method_1_code 42 = .ok (.return_, 1) := by decide +kernel
theorem own_ef_own_init (m : MethodId) (x0 : Addr) (x1 : Int32) : entryFrame m #[(.ref x0), (.int x1)] 2 = mkF m 0 #[.val (.ref x0), .val (.int x1)] [] := by first | (simp [entryFrame, mkF, argsToLocals, Value.category]; done) | rfl
def own_Q_own_init (Z : State) (a : Addr) (h0 : Heap) (n0 : Nat) (v : Option Value) (h : Heap) (L : List Loc) : Prop := ∃ (rb : Addr) (mp : Addr) (vb : Addr) (kr : ClassId) (kv : ClassId), (v = none) ∧ (Fr n0 L) ∧ (Keep h0 h [a]) ∧ (n0 ≤ rb) ∧ (h0.size ≤ rb) ∧ (n0 ≤ mp) ∧ (h0.size ≤ mp) ∧ (n0 ≤ vb) ∧ (h0.size ≤ vb) ∧ (rb ≠ mp) ∧ (rb ≠ vb) ∧ (mp ≠ vb) ∧ (Fld Z h a "com/example/lehti/lehti/eval/Relation" "rowsByTuple" "[I" (.ref rb)) ∧ (Fld Z h a "com/example/lehti/lehti/eval/Relation" "indexes" "Ljava/util/Map;" (.ref mp)) ∧ (Fld Z h a "com/example/lehti/lehti/eval/Relation" "arity" "I" (.int (2 : Int32))) ∧ (Fld Z h a "com/example/lehti/lehti/eval/Relation" "values" "[I" (.ref vb)) ∧ (Fld Z h a "com/example/lehti/lehti/eval/Relation" "size" "I" (.int (0 : Int32))) ∧ (Arv Z h rb kr .int (16 : Int32) (own_fl 16 (fun _ => (0 : Int32))) (.int (0 : Int32))) ∧ (Arv Z h vb kv .int (32 : Int32) (own_fl 32 (fun _ => (0 : Int32))) (.int (0 : Int32))) ∧ (Exa Z h mp "java/util/HashMap") ∧ (Fld Z h mp "java/util/HashMap" "modCount" "I" (.int (0 : Int32))) ∧ (Fld Z h mp "java/util/HashMap" "table" "[Ljava/util/HashMap$Node;" .null)
theorem own_pn798614349 : plainName "com/example/lehti/lehti/eval/Relation" = true := by first | (simp [plainName, overriddenIn]; done) | decide +kernel
set_option maxRecDepth 65536 in
set_option maxHeartbeats 40000000 in
theorem own_init (l : Launch) (Z : State) (a0 : Array Value) (hw : ∀ d ∈ tables_1, d.before a0 Z = true) (ws : List Jvm.Cond) (a : Addr) (h0 : Heap) (n0 : Nat) (Z0 : n0 ≤ h0.size) (E_a : Exa Z h0 a "com/example/lehti/lehti/eval/Relation") (F_a_rowsByTuple : Fld Z h0 a "com/example/lehti/lehti/eval/Relation" "rowsByTuple" "[I" .null) (F_a_indexes : Fld Z h0 a "com/example/lehti/lehti/eval/Relation" "indexes" "Ljava/util/Map;" .null) (F_a_arity : Fld Z h0 a "com/example/lehti/lehti/eval/Relation" "arity" "I" (.int (0 : Int32))) (F_a_values : Fld Z h0 a "com/example/lehti/lehti/eval/Relation" "values" "[I" .null) (F_a_size : Fld Z h0 a "com/example/lehti/lehti/eval/Relation" "size" "I" (.int (0 : Int32))) (g_a : n0 ≤ a) :
    MetFree l (⟨"com/example/lehti/lehti/eval/Relation", "<init>", "(I)V"⟩ : MethodName) (head1 (Jvm.Cond.code (⟨"com/example/lehti/lehti/eval/Relation", "<init>", "(I)V"⟩ : MethodName) prog_7_method_1_code 2 none :: ws) ({ frames := 3, cells := 3, slots := 56, locals := 38 } : Room)) (fun xa xU => xa = #[(.ref a), (.int (2 : Int32))] ∧ Z.Warmed39 xU.vm ∧ xU.heap = h0) (fun _ _ _ _ _ => True) (fun _ xU xo xV => ∃ v L, xo = .returned v ∧ own_Q_own_init Z a h0 n0 v xV.heap L ∧ FrameEnd xU xo xV L ({ frames := 3, cells := 3, slots := 56, locals := 38 } : Room).cells ({ frames := 3, cells := 3, slots := 56, locals := 38 } : Room).slots) := by
  refine MetFree.of_bodySF (plainFor_of_name own_pn798614349) hisR ?_
  intro p e s m args below meth c s₁ Bd hml0 hP hK
  obtain ⟨rfl, hZ, hh⟩ := hP
  have hx := Bd.exec
  have hby := Bd.bytes
  have hlk := Bd.notSynchronized
  have hret := Bd.returns
  have hml : c.maxLocals = 2 := hml0
  have hown : s.vm.findClass "com/example/lehti/lehti/eval/Relation" = some m.cls := findClass_of_methodNamed Bd.named
  have hnm := (name_of_methodNamed Bd.named Bd.method).1
  have X0 : Stand p l e ({ frames := 3, cells := 3, slots := 56, locals := 38 } : Room) s m #[(.ref a), (.int (2 : Int32))] below meth c s₁ [] 0 0 := Stand.of_body Bd
  have e0 : s₁.heap = h0 := by rw [← hh, Bd.state]; rfl
  have N0 := Fr.nil n0
  show own_Gl p e below s (own_Q_own_init Z a h0 n0) ({ frames := 3, cells := 3, slots := 56, locals := 38 } : Room).cells ({ frames := 3, cells := 3, slots := 56, locals := 38 } : Room).slots _
  refine own_cast (own_ef_own_init m a (2 : Int32)) ?_
  show own_Gl _ _ _ _ _ _ _ (s₁.setTop (mkF m 0 #[.val (.ref a), .val (.int (2 : Int32))] []))
  refine own_st (fun _ k => XS.aloadN X0.here hx rfl (hb hby own_d_prog_7_method_1_code_0) rfl rfl k) ?_
  show own_Gl _ _ _ _ _ _ _ (s₁.setTop (mkF m 1 #[.val (.ref a), .val (.int (2 : Int32))] [(.ref a)]))
  obtain ⟨T1, X1, e1, st1⟩ := initO X0 hx hZ hown (hw _ (List.mem_of_getElem? (i := 6) rfl)) (hw _ (List.mem_of_getElem? (i := 7) rfl)) (hw _ (List.mem_of_getElem? (i := 8) rfl)) e0 (g := (mkF m 1 #[.val (.ref a), .val (.int (2 : Int32))] [(.ref a)])) rfl (by rw [hml]; rfl) rfl (hb hby own_d_prog_7_method_1_code_1) (by decide) (W := 0) (by show 2 * 0 + _ ≤ _; exact Nat.le_of_eq rfl) (by decide)
  refine own_st st1 ?_
  show own_Gl _ _ _ _ _ _ _ (T1.setTop (mkF m 4 #[.val (.ref a), .val (.int (2 : Int32))] []))
  refine own_st (fun _ k => XS.aloadN X1.here hx rfl (hb hby own_d_prog_7_method_1_code_4) rfl rfl k) ?_
  show own_Gl _ _ _ _ _ _ _ (T1.setTop (mkF m 5 #[.val (.ref a), .val (.int (2 : Int32))] [(.ref a)]))
  refine own_st (fun _ k => XS.bipush X1.here hx rfl (hb hby own_d_prog_7_method_1_code_5) k) ?_
  show own_Gl _ _ _ _ _ _ _ (T1.setTop (mkF m 7 #[.val (.ref a), .val (.int (2 : Int32))] [(.int (16 : Int32)), (.ref a)]))
  obtain ⟨T2, h2, k2, X2, e2, E2, A2, st2⟩ := newP X1 hx hZ (hw _ (List.mem_of_getElem? (i := 9) rfl)) e1 (g := (mkF m 7 #[.val (.ref a), .val (.int (2 : Int32))] [(.int (16 : Int32)), (.ref a)])) rfl (hb hby own_d_prog_7_method_1_code_7) rfl (by decide) (cap := 16) (by decide) (by decide) (by decide) (by decide)
  obtain ⟨b2, gb2⟩ : ∃ z, z = h0.size := ⟨_, rfl⟩
  rw [← gb2] at A2 st2
  refine own_st st2 ?_
  have Zs3 : n0 ≤ h2.size := Nat.le_trans Z0 E2.1
  have g_b2 : n0 ≤ b2 := Nat.le_trans Z0 (Nat.le_of_eq gb2.symm)
  have gh_b2 : h0.size ≤ b2 := Nat.le_trans (Keep.refl h0 [a]).1 (Nat.le_of_eq gb2.symm)
  have ne_a_b2 : a ≠ b2 := Nat.ne_of_lt (Nat.lt_of_lt_of_le E_a.lt (Nat.le_of_eq gb2.symm))
  have V_b2 : Arv Z h2 b2 k2 .int (16 : Int32) [(.int (0 : Int32)), (.int (0 : Int32)), (.int (0 : Int32)), (.int (0 : Int32)), (.int (0 : Int32)), (.int (0 : Int32)), (.int (0 : Int32)), (.int (0 : Int32)), (.int (0 : Int32)), (.int (0 : Int32)), (.int (0 : Int32)), (.int (0 : Int32)), (.int (0 : Int32)), (.int (0 : Int32)), (.int (0 : Int32)), (.int (0 : Int32))] (.int (0 : Int32)) := (Arv.new A2 (by decide)).pad (pad_rep [] (.int (0 : Int32)) 16)
  show own_Gl _ _ _ _ _ _ _ (T2.setTop (mkF m 9 #[.val (.ref a), .val (.int (2 : Int32))] [(.ref b2), (.ref a)]))
  have f5 := (E_a.ext E2)
  have f6 := (F_a_rowsByTuple.ext E2)
  obtain ⟨T7, h7, X7, e7, W7, st7⟩ := putF X2 hx hZ hown (host := "") (Or.inl (hw _ (List.mem_of_getElem? (i := 10) rfl))) Via.refl e2 f6 f5 (Or.inl (hw _ (List.mem_of_getElem? (i := 11) rfl))) (hw _ (List.mem_of_getElem? (i := 1) rfl)) (ty := (.array .int)) (by decide) rfl rfl (g := (mkF m 9 #[.val (.ref a), .val (.int (2 : Int32))] [(.ref b2), (.ref a)])) rfl rfl (hb hby own_d_prog_7_method_1_code_9)
  have N7 := Fr.snoc X7 N0 g_a
  refine own_st st7 ?_
  have Zs8 : n0 ≤ h7.size := Nat.le_trans Zs3 (Keep.of_wr W7).1
  have Fw7 := f6.same W7
  show own_Gl _ _ _ _ _ _ _ (T7.setTop (mkF m 12 #[.val (.ref a), .val (.int (2 : Int32))] []))
  refine own_st (fun _ k => XS.aloadN X7.here hx rfl (hb hby own_d_prog_7_method_1_code_12) rfl rfl k) ?_
  show own_Gl _ _ _ _ _ _ _ (T7.setTop (mkF m 13 #[.val (.ref a), .val (.int (2 : Int32))] [(.ref a)]))
  have f9 := (f5.wr W7)
  have f10 := (V_b2.other W7 (Ne.symm ne_a_b2))
  have K11 : Keep h0 h7 [a] := (((Keep.refl h0 [a]).ext E2).wr W7 (Or.inl (List.mem_of_getElem? (i := 0) rfl)))
  obtain ⟨T12, h12, X12, e12, E12, A12, D12, -, st12⟩ := newO X7 hx hZ hown (hw _ (List.mem_of_getElem? (i := 12) rfl)) (hw _ (List.mem_of_getElem? (i := 13) rfl)) (hw _ (List.mem_of_getElem? (i := 14) rfl)) e7 (g := (mkF m 13 #[.val (.ref a), .val (.int (2 : Int32))] [(.ref a)])) rfl (hb hby own_d_prog_7_method_1_code_13) (by decide) (by decide)
  obtain ⟨b12, gb12⟩ : ∃ z, z = h7.size := ⟨_, rfl⟩
  rw [← gb12] at A12 D12 st12
  refine own_st st12 ?_
  have Zs13 : n0 ≤ h12.size := Nat.le_trans Zs8 E12.1
  have g_b12 : n0 ≤ b12 := Nat.le_trans Zs8 (Nat.le_of_eq gb12.symm)
  have gh_b12 : h0.size ≤ b12 := Nat.le_trans K11.1 (Nat.le_of_eq gb12.symm)
  have ne_a_b12 : a ≠ b12 := Nat.ne_of_lt (Nat.lt_of_lt_of_le f9.lt (Nat.le_of_eq gb12.symm))
  have ne_b2_b12 : b2 ≠ b12 := Nat.ne_of_lt (Nat.lt_of_lt_of_le f10.lt (Nat.le_of_eq gb12.symm))
  have F_loadFactor_b12 : Fld Z h12 b12 "java/util/HashMap" "loadFactor" "F" (.float (0 : UInt32)) := D12 (Or.inr (hw _ (List.mem_of_getElem? (i := 27) rfl))) (ty := .float) (by decide)
  have F_modCount_b12 : Fld Z h12 b12 "java/util/HashMap" "modCount" "I" (.int (0 : Int32)) := D12 (Or.inl (hw _ (List.mem_of_getElem? (i := 65) rfl))) (ty := .int) (by decide)
  have F_table_b12 : Fld Z h12 b12 "java/util/HashMap" "table" "[Ljava/util/HashMap$Node;" .null := D12 (Or.inl (hw _ (List.mem_of_getElem? (i := 67) rfl))) (ty := (.array (.object "java/util/HashMap$Node"))) (by decide)
  show own_Gl _ _ _ _ _ _ _ (T12.setTop (mkF m 16 #[.val (.ref a), .val (.int (2 : Int32))] [(.ref b12), (.ref a)]))
  refine own_st (fun _ k => XS.dup X12.here hx rfl (hb hby own_d_prog_7_method_1_code_16) rfl rfl k) ?_
  show own_Gl _ _ _ _ _ _ _ (T12.setTop (mkF m 17 #[.val (.ref a), .val (.int (2 : Int32))] [(.ref b12), (.ref b12), (.ref a)]))
  have f16 := (f9.ext E12)
  have f17 := (f10.ext E12)
  obtain ⟨_, _, ⟨T15, L15, k15, n15⟩, -, X15, ⟨Lc15, hQ15, l15, y15, z15⟩, st15⟩ := X12.specialBack hx (y := (⟨"java/util/HashMap", "<init>", "()V"⟩ : MethodName)) rfl hown (mvT hZ (hw _ (List.mem_of_getElem? (i := 15) rfl))) (mvT hZ (hw _ (List.mem_of_getElem? (i := 16) rfl))) (mvT hZ (hw _ (List.mem_of_getElem? (i := 17) rfl))) (by decide) (backOf (W := 2) (own_hminit l Z a0 hw [] b12 h12 n0 Zs13 A12 F_loadFactor_b12 F_modCount_b12 F_table_b12 g_b12) hZ (hw _ (List.mem_of_getElem? (i := 17) rfl)) (hw _ (List.mem_of_getElem? (i := 14) rfl)) (by decide) (by decide)) (g := (mkF m 17 #[.val (.ref a), .val (.int (2 : Int32))] [(.ref b12), (.ref b12), (.ref a)])) rfl (by rw [hml]; rfl) (Steps.refl _) (a := b12) (argsL := []) (rest := [(.ref b12), (.ref a)]) (lenOf own_pd691897 rfl) rfl (by show 2 * 0 + _ ≤ _; exact Nat.le_of_eq rfl) (hb hby own_d_prog_7_method_1_code_17) (fun _ _ => ⟨rfl, e12, (by decide : 2 + 0 ≤ ({ frames := 3, cells := 3, slots := 56, locals := 38 } : Room).cells), (by decide : 24 + 0 ≤ ({ frames := 3, cells := 3, slots := 56, locals := 38 } : Room).slots)⟩)
  dsimp only [Pt.U, Pt.locs, Pt.cells, Pt.slots] at X15 l15 y15 z15 st15 hQ15
  subst l15 y15 z15
  obtain ⟨hh15, eh015⟩ : ∃ z, T15.heap = z := ⟨_, rfl⟩
  rw [eh015] at hQ15
  obtain ⟨rfl, Nq15, Kq15, P15_0, P15_1⟩ := hQ15
  have N15 := Fr.app N7 Nq15
  refine own_tr st15 ?_
  have Zs18 : n0 ≤ hh15.size := Nat.le_trans Zs13 Kq15.1
  show own_Gl _ _ _ _ _ _ _ (T15.setTop (mkF m 20 #[.val (.ref a), .val (.int (2 : Int32))] [(.ref b12), (.ref a)]))
  have f19 := (f16.keep Kq15)
  have f20 := ((((F_a_indexes.ext E2).other W7 (Or.inr (slot_ne (Or.inr (hw _ (List.mem_of_getElem? (i := 29) rfl))) (Or.inl (hw _ (List.mem_of_getElem? (i := 11) rfl))) (by decide) (t := (.object "java/util/Map")) (t' := (.array .int)) (by decide) (by decide)))).ext E12).keep Kq15 (ninS ne_a_b12 nin0))
  obtain ⟨T21, h21, X21, e21, W21, st21⟩ := putF X15 hx hZ hown (host := "") (Or.inl (hw _ (List.mem_of_getElem? (i := 28) rfl))) Via.refl eh015 f20 f19 (Or.inr ⟨(hw _ (List.mem_of_getElem? (i := 29) rfl)), rfl, hnm⟩) (hw _ (List.mem_of_getElem? (i := 1) rfl)) (ty := (.object "java/util/Map")) (by decide) rfl rfl (g := (mkF m 20 #[.val (.ref a), .val (.int (2 : Int32))] [(.ref b12), (.ref a)])) rfl rfl (hb hby own_d_prog_7_method_1_code_20)
  have N21 := Fr.snoc X21 N15 g_a
  refine own_st st21 ?_
  have Zs22 : n0 ≤ h21.size := Nat.le_trans Zs18 (Keep.of_wr W21).1
  have Fw21 := f20.same W21
  show own_Gl _ _ _ _ _ _ _ (T21.setTop (mkF m 23 #[.val (.ref a), .val (.int (2 : Int32))] []))
  refine own_st (fun _ k => XS.aloadN X21.here hx rfl (hb hby own_d_prog_7_method_1_code_23) rfl rfl k) ?_
  show own_Gl _ _ _ _ _ _ _ (T21.setTop (mkF m 24 #[.val (.ref a), .val (.int (2 : Int32))] [(.ref a)]))
  refine own_st (fun _ k => XS.iloadN X21.here hx rfl (hb hby own_d_prog_7_method_1_code_24) rfl k) ?_
  show own_Gl _ _ _ _ _ _ _ (T21.setTop (mkF m 25 #[.val (.ref a), .val (.int (2 : Int32))] [(.int (2 : Int32)), (.ref a)]))
  have f23 := (f19.wr W21)
  have f24 := (((((F_a_arity.ext E2).other W7 (Or.inr (slot_ne (Or.inr (hw _ (List.mem_of_getElem? (i := 31) rfl))) (Or.inl (hw _ (List.mem_of_getElem? (i := 11) rfl))) (by decide) (t := .int) (t' := (.array .int)) (by decide) (by decide)))).ext E12).keep Kq15 (ninS ne_a_b12 nin0)).other W21 (Or.inr (slot_ne (Or.inr (hw _ (List.mem_of_getElem? (i := 31) rfl))) (Or.inr (hw _ (List.mem_of_getElem? (i := 29) rfl))) (by decide) (t := .int) (t' := (.object "java/util/Map")) (by decide) (by decide))))
  obtain ⟨T25, h25, X25, e25, W25, st25⟩ := putF X21 hx hZ hown (host := "") (Or.inl (hw _ (List.mem_of_getElem? (i := 30) rfl))) Via.refl e21 f24 f23 (Or.inr ⟨(hw _ (List.mem_of_getElem? (i := 31) rfl)), rfl, hnm⟩) (hw _ (List.mem_of_getElem? (i := 1) rfl)) (ty := .int) (by decide) rfl rfl (g := (mkF m 25 #[.val (.ref a), .val (.int (2 : Int32))] [(.int (2 : Int32)), (.ref a)])) rfl rfl (hb hby own_d_prog_7_method_1_code_25)
  have N25 := Fr.snoc X25 N21 g_a
  refine own_st st25 ?_
  have Zs26 : n0 ≤ h25.size := Nat.le_trans Zs22 (Keep.of_wr W25).1
  have Fw25 := f24.same W25
  show own_Gl _ _ _ _ _ _ _ (T25.setTop (mkF m 28 #[.val (.ref a), .val (.int (2 : Int32))] []))
  refine own_st (fun _ k => XS.aloadN X25.here hx rfl (hb hby own_d_prog_7_method_1_code_28) rfl rfl k) ?_
  show own_Gl _ _ _ _ _ _ _ (T25.setTop (mkF m 29 #[.val (.ref a), .val (.int (2 : Int32))] [(.ref a)]))
  refine own_st (fun _ k => XS.bipush X25.here hx rfl (hb hby own_d_prog_7_method_1_code_29) k) ?_
  show own_Gl _ _ _ _ _ _ _ (T25.setTop (mkF m 31 #[.val (.ref a), .val (.int (2 : Int32))] [(.int (16 : Int32)), (.ref a)]))
  refine own_st (fun _ k => XS.iloadN X25.here hx rfl (hb hby own_d_prog_7_method_1_code_31) rfl k) ?_
  show own_Gl _ _ _ _ _ _ _ (T25.setTop (mkF m 32 #[.val (.ref a), .val (.int (2 : Int32))] [(.int (2 : Int32)), (.int (16 : Int32)), (.ref a)]))
  refine own_st (fun _ k => XS.iconst X25.here hx rfl (hb hby own_d_prog_7_method_1_code_32) k) ?_
  show own_Gl _ _ _ _ _ _ _ (T25.setTop (mkF m 33 #[.val (.ref a), .val (.int (2 : Int32))] [(.int (1 : Int32)), (.int (2 : Int32)), (.int (16 : Int32)), (.ref a)]))
  have f28 := (f23.wr W25)
  have f29 := (((f17.keep Kq15 (ninS ne_b2_b12 nin0)).other W21 (Ne.symm ne_a_b2)).other W25 (Ne.symm ne_a_b2))
  have f30 := (((A12.keep Kq15).wr W21).wr W25)
  obtain ⟨_, _, ⟨T27, L27, k27, n27⟩, -, X27, ⟨Lc27, hQ27, l27, y27, z27⟩, st27⟩ := Jvm.LawKit.callS X25 hx (y := (⟨"java/lang/Math", "max", "(II)I"⟩ : MethodName)) hown (mvT hZ (hw _ (List.mem_of_getElem? (i := 32) rfl))) (mvT hZ (hw _ (List.mem_of_getElem? (i := 33) rfl))) (mvT hZ (hw _ (List.mem_of_getElem? (i := 34) rfl))) (mvT hZ (hw _ (List.mem_of_getElem? (i := 35) rfl))) (by decide) (backOf (W := 2) (own_max l Z a0 hw []  h25 n0 Zs26 ) hZ (hw _ (List.mem_of_getElem? (i := 35) rfl)) (hw _ (List.mem_of_getElem? (i := 34) rfl)) (by decide) (by decide)) (g := (mkF m 33 #[.val (.ref a), .val (.int (2 : Int32))] [(.int (1 : Int32)), (.int (2 : Int32)), (.int (16 : Int32)), (.ref a)])) rfl (by rw [hml]; rfl) (argsL := [(.int (2 : Int32)), (.int (1 : Int32))]) (rest := [(.int (16 : Int32)), (.ref a)]) (lenOf own_pd945365680 rfl) rfl (by show 2 * 0 + _ ≤ _; exact Nat.le_of_eq rfl) (hb hby own_d_prog_7_method_1_code_33) (fun _ _ => ⟨rfl, e25, (by decide : 2 + 0 ≤ ({ frames := 3, cells := 3, slots := 56, locals := 38 } : Room).cells), (by decide : 24 + 0 ≤ ({ frames := 3, cells := 3, slots := 56, locals := 38 } : Room).slots)⟩)
  dsimp only [Pt.U, Pt.locs, Pt.cells, Pt.slots] at X27 l27 y27 z27 st27 hQ27
  subst l27 y27 z27
  obtain ⟨hh27, eh027⟩ : ∃ z, T27.heap = z := ⟨_, rfl⟩
  rw [eh027] at hQ27
  obtain ⟨rfl, Nq27, eh27⟩ := hQ27
  have N27 := Fr.app N25 Nq27
  refine own_st st27 ?_
  have e27 : T27.heap = h25 := eh027.trans eh27
  show own_Gl _ _ _ _ _ _ _ (T27.setTop (mkF m 36 #[.val (.ref a), .val (.int (2 : Int32))] [(.int (2 : Int32)), (.int (16 : Int32)), (.ref a)]))
  refine own_st (fun _ k => XS.imul X27.here hx rfl (hb hby own_d_prog_7_method_1_code_36) rfl k) ?_
  show own_Gl _ _ _ _ _ _ _ (T27.setTop (mkF m 37 #[.val (.ref a), .val (.int (2 : Int32))] [(.int (32 : Int32)), (.ref a)]))
  have K31 : Keep h0 h25 [a] := ((((K11.ext E12).trans Kq15 (allS (Or.inr gh_b12) all0)).wr W21 (Or.inl (List.mem_of_getElem? (i := 0) rfl))).wr W25 (Or.inl (List.mem_of_getElem? (i := 0) rfl)))
  obtain ⟨T32, h32, k32, X32, e32, E32, A32, st32⟩ := newP X27 hx hZ (hw _ (List.mem_of_getElem? (i := 9) rfl)) e27 (g := (mkF m 37 #[.val (.ref a), .val (.int (2 : Int32))] [(.int (32 : Int32)), (.ref a)])) rfl (hb hby own_d_prog_7_method_1_code_37) rfl (by decide) (cap := 32) (by decide) (by decide) (by decide) (by decide)
  obtain ⟨b32, gb32⟩ : ∃ z, z = h25.size := ⟨_, rfl⟩
  rw [← gb32] at A32 st32
  refine own_st st32 ?_
  have Zs33 : n0 ≤ h32.size := Nat.le_trans Zs26 E32.1
  have g_b32 : n0 ≤ b32 := Nat.le_trans Zs26 (Nat.le_of_eq gb32.symm)
  have gh_b32 : h0.size ≤ b32 := Nat.le_trans K31.1 (Nat.le_of_eq gb32.symm)
  have ne_a_b32 : a ≠ b32 := Nat.ne_of_lt (Nat.lt_of_lt_of_le f28.lt (Nat.le_of_eq gb32.symm))
  have ne_b2_b32 : b2 ≠ b32 := Nat.ne_of_lt (Nat.lt_of_lt_of_le f29.lt (Nat.le_of_eq gb32.symm))
  have ne_b12_b32 : b12 ≠ b32 := Nat.ne_of_lt (Nat.lt_of_lt_of_le f30.lt (Nat.le_of_eq gb32.symm))
  have V_b32 : Arv Z h32 b32 k32 .int (32 : Int32) [(.int (0 : Int32)), (.int (0 : Int32)), (.int (0 : Int32)), (.int (0 : Int32)), (.int (0 : Int32)), (.int (0 : Int32)), (.int (0 : Int32)), (.int (0 : Int32)), (.int (0 : Int32)), (.int (0 : Int32)), (.int (0 : Int32)), (.int (0 : Int32)), (.int (0 : Int32)), (.int (0 : Int32)), (.int (0 : Int32)), (.int (0 : Int32)), (.int (0 : Int32)), (.int (0 : Int32)), (.int (0 : Int32)), (.int (0 : Int32)), (.int (0 : Int32)), (.int (0 : Int32)), (.int (0 : Int32)), (.int (0 : Int32)), (.int (0 : Int32)), (.int (0 : Int32)), (.int (0 : Int32)), (.int (0 : Int32)), (.int (0 : Int32)), (.int (0 : Int32)), (.int (0 : Int32)), (.int (0 : Int32))] (.int (0 : Int32)) := (Arv.new A32 (by decide)).pad (pad_rep [] (.int (0 : Int32)) 32)
  show own_Gl _ _ _ _ _ _ _ (T32.setTop (mkF m 39 #[.val (.ref a), .val (.int (2 : Int32))] [(.ref b32), (.ref a)]))
  have f35 := (f28.ext E32)
  have f36 := (((((((F_a_values.ext E2).other W7 (Or.inr (slot_ne (Or.inl (hw _ (List.mem_of_getElem? (i := 37) rfl))) (Or.inl (hw _ (List.mem_of_getElem? (i := 11) rfl))) (by decide) (t := (.array .int)) (t' := (.array .int)) (by decide) (by decide)))).ext E12).keep Kq15 (ninS ne_a_b12 nin0)).other W21 (Or.inr (slot_ne (Or.inl (hw _ (List.mem_of_getElem? (i := 37) rfl))) (Or.inr (hw _ (List.mem_of_getElem? (i := 29) rfl))) (by decide) (t := (.array .int)) (t' := (.object "java/util/Map")) (by decide) (by decide)))).other W25 (Or.inr (slot_ne (Or.inl (hw _ (List.mem_of_getElem? (i := 37) rfl))) (Or.inr (hw _ (List.mem_of_getElem? (i := 31) rfl))) (by decide) (t := (.array .int)) (t' := .int) (by decide) (by decide)))).ext E32)
  obtain ⟨T37, h37, X37, e37, W37, st37⟩ := putF X32 hx hZ hown (host := "") (Or.inl (hw _ (List.mem_of_getElem? (i := 36) rfl))) Via.refl e32 f36 f35 (Or.inl (hw _ (List.mem_of_getElem? (i := 37) rfl))) (hw _ (List.mem_of_getElem? (i := 1) rfl)) (ty := (.array .int)) (by decide) rfl rfl (g := (mkF m 39 #[.val (.ref a), .val (.int (2 : Int32))] [(.ref b32), (.ref a)])) rfl rfl (hb hby own_d_prog_7_method_1_code_39)
  have N37 := Fr.snoc X37 N27 g_a
  refine own_st st37 ?_
  have Zs38 : n0 ≤ h37.size := Nat.le_trans Zs33 (Keep.of_wr W37).1
  have Fw37 := f36.same W37
  show own_Gl _ _ _ _ _ _ _ (T37.setTop (mkF m 42 #[.val (.ref a), .val (.int (2 : Int32))] []))
  have K39 : Keep h0 h37 [a] := ((K31.ext E32).wr W37 (Or.inl (List.mem_of_getElem? (i := 0) rfl)))
  have f40 := ((((((Fw7.ext E12).keep Kq15 (ninS ne_a_b12 nin0)).other W21 (Or.inr (slot_ne (Or.inl (hw _ (List.mem_of_getElem? (i := 11) rfl))) (Or.inr (hw _ (List.mem_of_getElem? (i := 29) rfl))) (by decide) (t := (.array .int)) (t' := (.object "java/util/Map")) (by decide) (by decide)))).other W25 (Or.inr (slot_ne (Or.inl (hw _ (List.mem_of_getElem? (i := 11) rfl))) (Or.inr (hw _ (List.mem_of_getElem? (i := 31) rfl))) (by decide) (t := (.array .int)) (t' := .int) (by decide) (by decide)))).ext E32).other W37 (Or.inr (slot_ne (Or.inl (hw _ (List.mem_of_getElem? (i := 11) rfl))) (Or.inl (hw _ (List.mem_of_getElem? (i := 37) rfl))) (by decide) (t := (.array .int)) (t' := (.array .int)) (by decide) (by decide))))
  have f41 := (((Fw21.other W25 (Or.inr (slot_ne (Or.inr (hw _ (List.mem_of_getElem? (i := 29) rfl))) (Or.inr (hw _ (List.mem_of_getElem? (i := 31) rfl))) (by decide) (t := (.object "java/util/Map")) (t' := .int) (by decide) (by decide)))).ext E32).other W37 (Or.inr (slot_ne (Or.inr (hw _ (List.mem_of_getElem? (i := 29) rfl))) (Or.inl (hw _ (List.mem_of_getElem? (i := 37) rfl))) (by decide) (t := (.object "java/util/Map")) (t' := (.array .int)) (by decide) (by decide))))
  have f42 := ((Fw25.ext E32).other W37 (Or.inr (slot_ne (Or.inr (hw _ (List.mem_of_getElem? (i := 31) rfl))) (Or.inl (hw _ (List.mem_of_getElem? (i := 37) rfl))) (by decide) (t := .int) (t' := (.array .int)) (by decide) (by decide))))
  have f43 := ((((((((F_a_size.ext E2).other W7 (Or.inr (slot_ne (Or.inl (hw _ (List.mem_of_getElem? (i := 50) rfl))) (Or.inl (hw _ (List.mem_of_getElem? (i := 11) rfl))) (by decide) (t := .int) (t' := (.array .int)) (by decide) (by decide)))).ext E12).keep Kq15 (ninS ne_a_b12 nin0)).other W21 (Or.inr (slot_ne (Or.inl (hw _ (List.mem_of_getElem? (i := 50) rfl))) (Or.inr (hw _ (List.mem_of_getElem? (i := 29) rfl))) (by decide) (t := .int) (t' := (.object "java/util/Map")) (by decide) (by decide)))).other W25 (Or.inr (slot_ne (Or.inl (hw _ (List.mem_of_getElem? (i := 50) rfl))) (Or.inr (hw _ (List.mem_of_getElem? (i := 31) rfl))) (by decide) (t := .int) (t' := .int) (by decide) (by decide)))).ext E32).other W37 (Or.inr (slot_ne (Or.inl (hw _ (List.mem_of_getElem? (i := 50) rfl))) (Or.inl (hw _ (List.mem_of_getElem? (i := 37) rfl))) (by decide) (t := .int) (t' := (.array .int)) (by decide) (by decide))))
  have f44 := ((f29.ext E32).other W37 (Ne.symm ne_a_b2))
  have f45 := (V_b32.other W37 (Ne.symm ne_a_b32))
  have f46 := ((f30.ext E32).wr W37)
  have f47 := ((((P15_0.other W21 (Or.inl (Ne.symm ne_a_b12))).other W25 (Or.inl (Ne.symm ne_a_b12))).ext E32).other W37 (Or.inl (Ne.symm ne_a_b12)))
  have f48 := ((((P15_1.other W21 (Or.inl (Ne.symm ne_a_b12))).other W25 (Or.inl (Ne.symm ne_a_b12))).ext E32).other W37 (Or.inl (Ne.symm ne_a_b12)))
  exact own_retV X37 hx hlk hret (hb hby own_d_prog_7_method_1_code_42) e37 ⟨b2, b12, b32, k2, k32, rfl, N37, K39, g_b2, gh_b2, g_b12, gh_b12, g_b32, gh_b32, ne_b2_b12, ne_b2_b32, ne_b12_b32, f40, f41, f42, Fw37, f43, f44, f45, f46, f47, f48⟩ (by decide) (by decide)
theorem own_d_prog_7_method_9_code_0 : decode prog_7_method_9_code 0 = .ok (.ldc 91, 2) := by decide +kernel
theorem own_d_prog_7_method_9_code_2 : decode prog_7_method_9_code 2 = .ok (.istore_n 3, 1) := by decide +kernel
theorem own_d_prog_7_method_9_code_3 : decode prog_7_method_9_code 3 = .ok (.iload_n 1, 1) := by decide +kernel
theorem own_d_prog_7_method_9_code_4 : decode prog_7_method_9_code 4 = .ok (.istore 4, 2) := by decide +kernel
theorem own_d_prog_7_method_9_code_6 : decode prog_7_method_9_code 6 = .ok (.iload 4, 2) := by decide +kernel
theorem own_d_prog_7_method_9_code_8 : decode prog_7_method_9_code 8 = .ok (.iload_n 1, 1) := by decide +kernel
theorem own_d_prog_7_method_9_code_9 : decode prog_7_method_9_code 9 = .ok (.iload_n 2, 1) := by decide +kernel
theorem own_d_prog_7_method_9_code_10 : decode prog_7_method_9_code 10 = .ok (.iadd, 1) := by decide +kernel
theorem own_d_prog_7_method_9_code_11 : decode prog_7_method_9_code 11 = .ok (.if_icmp .ge 26, 3) := by decide +kernel
theorem own_d_prog_7_method_9_code_14 : decode prog_7_method_9_code 14 = .ok (.iload_n 3, 1) := by decide +kernel
theorem own_d_prog_7_method_9_code_15 : decode prog_7_method_9_code 15 = .ok (.aload_n 0, 1) := by decide +kernel
theorem own_d_prog_7_method_9_code_16 : decode prog_7_method_9_code 16 = .ok (.iload 4, 2) := by decide +kernel
theorem own_d_prog_7_method_9_code_18 : decode prog_7_method_9_code 18 = .ok (.iaload, 1) := by decide +kernel
theorem own_d_prog_7_method_9_code_19 : decode prog_7_method_9_code 19 = .ok (.ixor, 1) := by decide +kernel
theorem own_d_prog_7_method_9_code_20 : decode prog_7_method_9_code 20 = .ok (.ldc 92, 2) := by decide +kernel
theorem own_d_prog_7_method_9_code_22 : decode prog_7_method_9_code 22 = .ok (.imul, 1) := by decide +kernel
theorem own_d_prog_7_method_9_code_23 : decode prog_7_method_9_code 23 = .ok (.istore_n 3, 1) := by decide +kernel
theorem own_d_prog_7_method_9_code_24 : decode prog_7_method_9_code 24 = .ok (.iload_n 3, 1) := by decide +kernel
theorem own_d_prog_7_method_9_code_25 : decode prog_7_method_9_code 25 = .ok (.iload_n 3, 1) := by decide +kernel
theorem own_d_prog_7_method_9_code_26 : decode prog_7_method_9_code 26 = .ok (.bipush 15, 2) := by decide +kernel
theorem own_d_prog_7_method_9_code_28 : decode prog_7_method_9_code 28 = .ok (.iushr, 1) := by decide +kernel
theorem own_d_prog_7_method_9_code_29 : decode prog_7_method_9_code 29 = .ok (.ixor, 1) := by decide +kernel
theorem own_d_prog_7_method_9_code_30 : decode prog_7_method_9_code 30 = .ok (.istore_n 3, 1) := by decide +kernel
theorem own_d_prog_7_method_9_code_31 : decode prog_7_method_9_code 31 = .ok (.iinc 4 1, 3) := by decide +kernel
theorem own_d_prog_7_method_9_code_34 : decode prog_7_method_9_code 34 = .ok (.goto (-28), 3) := by decide +kernel
theorem own_d_prog_7_method_9_code_37 : decode prog_7_method_9_code 37 = .ok (.iload_n 3, 1) := by decide +kernel
theorem own_d_prog_7_method_9_code_38 : decode prog_7_method_9_code 38 = .ok (.ldc 93, 2) := by decide +kernel
theorem own_d_prog_7_method_9_code_40 : decode prog_7_method_9_code 40 = .ok (.imul, 1) := by decide +kernel
theorem own_d_prog_7_method_9_code_41 : decode prog_7_method_9_code 41 = .ok (.istore_n 3, 1) := by decide +kernel
theorem own_d_prog_7_method_9_code_42 : decode prog_7_method_9_code 42 = .ok (.iload_n 3, 1) := by decide +kernel
theorem own_d_prog_7_method_9_code_43 : decode prog_7_method_9_code 43 = .ok (.iload_n 3, 1) := by decide +kernel
theorem own_d_prog_7_method_9_code_44 : decode prog_7_method_9_code 44 = .ok (.bipush 13, 2) := by decide +kernel
theorem own_d_prog_7_method_9_code_46 : decode prog_7_method_9_code 46 = .ok (.iushr, 1) := by decide +kernel
theorem own_d_prog_7_method_9_code_47 : decode prog_7_method_9_code 47 = .ok (.ixor, 1) := by decide +kernel
theorem own_d_prog_7_method_9_code_48 : decode prog_7_method_9_code 48 = .ok (.ireturn, 1) := by decide +kernel
theorem own_ef_own_rhash (m : MethodId) (x0 : Addr) (x1 : Int32) (x2 : Int32) : entryFrame m #[(.ref x0), (.int x1), (.int x2)] 5 = mkF m 0 #[.val (.ref x0), .val (.int x1), .val (.int x2), .unset, .unset] [] := by first | (simp [entryFrame, mkF, argsToLocals, Value.category]; done) | rfl
def own_Q_own_rhash (Z : State) (t : Addr) (kt : ClassId) (xx : Int32) (yy : Int32) (h0 : Heap) (n0 : Nat) (v : Option Value) (h : Heap) (L : List Loc) : Prop := (v = some (.int (own_hash xx yy))) ∧ (Fr n0 L) ∧ (h = h0)
set_option maxRecDepth 65536 in
set_option maxHeartbeats 40000000 in
theorem own_rhash (l : Launch) (Z : State) (a0 : Array Value) (hw : ∀ d ∈ tables_1, d.before a0 Z = true) (ws : List Jvm.Cond) (t : Addr) (kt : ClassId) (xx : Int32) (yy : Int32) (h0 : Heap) (n0 : Nat) (Z0 : n0 ≤ h0.size) (V_t : Arv Z h0 t kt .int (2 : Int32) [(.int xx), (.int yy)] (.int (0 : Int32))) :
    MetFree l (⟨"com/example/lehti/lehti/eval/Relation", "hash", "([III)I"⟩ : MethodName) (head1 (Jvm.Cond.code (⟨"com/example/lehti/lehti/eval/Relation", "hash", "([III)I"⟩ : MethodName) prog_7_method_9_code 5 (some .int) :: ws) ({ frames := 0, cells := 0, slots := 0, locals := 0 } : Room)) (fun xa xU => xa = #[(.ref t), (.int (0 : Int32)), (.int (2 : Int32))] ∧ Z.Warmed39 xU.vm ∧ xU.heap = h0) (fun _ _ _ _ _ => True) (fun _ xU xo xV => ∃ v L, xo = .returned v ∧ own_Q_own_rhash Z t kt xx yy h0 n0 v xV.heap L ∧ FrameEnd xU xo xV L ({ frames := 0, cells := 0, slots := 0, locals := 0 } : Room).cells ({ frames := 0, cells := 0, slots := 0, locals := 0 } : Room).slots) := by
  refine MetFree.of_bodySF (plainFor_of_name own_pn798614349) hisR ?_
  intro p e s m args below meth c s₁ Bd hml0 hP hK
  obtain ⟨rfl, hZ, hh⟩ := hP
  have hx := Bd.exec
  have hby := Bd.bytes
  have hlk := Bd.notSynchronized
  have hret := Bd.returns
  have hml : c.maxLocals = 5 := hml0
  have hown : s.vm.findClass "com/example/lehti/lehti/eval/Relation" = some m.cls := findClass_of_methodNamed Bd.named
  have hnm := (name_of_methodNamed Bd.named Bd.method).1
  have X0 : Stand p l e ({ frames := 0, cells := 0, slots := 0, locals := 0 } : Room) s m #[(.ref t), (.int (0 : Int32)), (.int (2 : Int32))] below meth c s₁ [] 0 0 := Stand.of_body Bd
  have e0 : s₁.heap = h0 := by rw [← hh, Bd.state]; rfl
  have N0 := Fr.nil n0
  show own_Gl p e below s (own_Q_own_rhash Z t kt xx yy h0 n0) ({ frames := 0, cells := 0, slots := 0, locals := 0 } : Room).cells ({ frames := 0, cells := 0, slots := 0, locals := 0 } : Room).slots _
  refine own_cast (own_ef_own_rhash m t (0 : Int32) (2 : Int32)) ?_
  show own_Gl _ _ _ _ _ _ _ (s₁.setTop (mkF m 0 #[.val (.ref t), .val (.int (0 : Int32)), .val (.int (2 : Int32)), .unset, .unset] []))
  refine own_st (X0.ldcInt hx hown (mvT hZ (hw _ (List.mem_of_getElem? (i := 46) rfl))) (g := (mkF m 0 #[.val (.ref t), .val (.int (0 : Int32)), .val (.int (2 : Int32)), .unset, .unset] [])) rfl (hb hby own_d_prog_7_method_9_code_0)) ?_
  show own_Gl _ _ _ _ _ _ _ (s₁.setTop (mkF m 2 #[.val (.ref t), .val (.int (0 : Int32)), .val (.int (2 : Int32)), .unset, .unset] [(.int (-1640531527 : Int32))]))
  refine own_st (fun _ k => XS.istoreN X0.here hx rfl (hb hby own_d_prog_7_method_9_code_2) rfl (l' := #[.val (.ref t), .val (.int (0 : Int32)), .val (.int (2 : Int32)), .val (.int (-1640531527 : Int32)), .unset]) rfl k) ?_
  show own_Gl _ _ _ _ _ _ _ (s₁.setTop (mkF m 3 #[.val (.ref t), .val (.int (0 : Int32)), .val (.int (2 : Int32)), .val (.int (-1640531527 : Int32)), .unset] []))
  refine own_st (fun _ k => XS.iloadN X0.here hx rfl (hb hby own_d_prog_7_method_9_code_3) rfl k) ?_
  show own_Gl _ _ _ _ _ _ _ (s₁.setTop (mkF m 4 #[.val (.ref t), .val (.int (0 : Int32)), .val (.int (2 : Int32)), .val (.int (-1640531527 : Int32)), .unset] [(.int (0 : Int32))]))
  refine own_st (fun _ k => XS.istore X0.here hx rfl (hb hby own_d_prog_7_method_9_code_4) rfl (l' := #[.val (.ref t), .val (.int (0 : Int32)), .val (.int (2 : Int32)), .val (.int (-1640531527 : Int32)), .val (.int (0 : Int32))]) rfl k) ?_
  show own_Gl _ _ _ _ _ _ _ (s₁.setTop (mkF m 6 #[.val (.ref t), .val (.int (0 : Int32)), .val (.int (2 : Int32)), .val (.int (-1640531527 : Int32)), .val (.int (0 : Int32))] []))
  refine own_st (fun _ k => XS.iload X0.here hx rfl (hb hby own_d_prog_7_method_9_code_6) rfl k) ?_
  show own_Gl _ _ _ _ _ _ _ (s₁.setTop (mkF m 8 #[.val (.ref t), .val (.int (0 : Int32)), .val (.int (2 : Int32)), .val (.int (-1640531527 : Int32)), .val (.int (0 : Int32))] [(.int (0 : Int32))]))
  refine own_st (fun _ k => XS.iloadN X0.here hx rfl (hb hby own_d_prog_7_method_9_code_8) rfl k) ?_
  show own_Gl _ _ _ _ _ _ _ (s₁.setTop (mkF m 9 #[.val (.ref t), .val (.int (0 : Int32)), .val (.int (2 : Int32)), .val (.int (-1640531527 : Int32)), .val (.int (0 : Int32))] [(.int (0 : Int32)), (.int (0 : Int32))]))
  refine own_st (fun _ k => XS.iloadN X0.here hx rfl (hb hby own_d_prog_7_method_9_code_9) rfl k) ?_
  show own_Gl _ _ _ _ _ _ _ (s₁.setTop (mkF m 10 #[.val (.ref t), .val (.int (0 : Int32)), .val (.int (2 : Int32)), .val (.int (-1640531527 : Int32)), .val (.int (0 : Int32))] [(.int (2 : Int32)), (.int (0 : Int32)), (.int (0 : Int32))]))
  refine own_st (fun _ k => XS.iadd X0.here hx rfl (hb hby own_d_prog_7_method_9_code_10) rfl k) ?_
  show own_Gl _ _ _ _ _ _ _ (s₁.setTop (mkF m 11 #[.val (.ref t), .val (.int (0 : Int32)), .val (.int (2 : Int32)), .val (.int (-1640531527 : Int32)), .val (.int (0 : Int32))] [(.int (2 : Int32)), (.int (0 : Int32))]))
  have hd1 : (0 : Int32) < (2 : Int32) := (by decide)
  refine own_st (fun _ k => XS.icmpNo X0.here hx rfl (hb hby own_d_prog_7_method_9_code_11) rfl (tlt hd1).2.1 k) ?_
  show own_Gl _ _ _ _ _ _ _ (s₁.setTop (mkF m 14 #[.val (.ref t), .val (.int (0 : Int32)), .val (.int (2 : Int32)), .val (.int (-1640531527 : Int32)), .val (.int (0 : Int32))] []))
  refine own_st (fun _ k => XS.iloadN X0.here hx rfl (hb hby own_d_prog_7_method_9_code_14) rfl k) ?_
  show own_Gl _ _ _ _ _ _ _ (s₁.setTop (mkF m 15 #[.val (.ref t), .val (.int (0 : Int32)), .val (.int (2 : Int32)), .val (.int (-1640531527 : Int32)), .val (.int (0 : Int32))] [(.int (-1640531527 : Int32))]))
  refine own_st (fun _ k => XS.aloadN X0.here hx rfl (hb hby own_d_prog_7_method_9_code_15) rfl rfl k) ?_
  show own_Gl _ _ _ _ _ _ _ (s₁.setTop (mkF m 16 #[.val (.ref t), .val (.int (0 : Int32)), .val (.int (2 : Int32)), .val (.int (-1640531527 : Int32)), .val (.int (0 : Int32))] [(.ref t), (.int (-1640531527 : Int32))]))
  refine own_st (fun _ k => XS.iload X0.here hx rfl (hb hby own_d_prog_7_method_9_code_16) rfl k) ?_
  show own_Gl _ _ _ _ _ _ _ (s₁.setTop (mkF m 18 #[.val (.ref t), .val (.int (0 : Int32)), .val (.int (2 : Int32)), .val (.int (-1640531527 : Int32)), .val (.int (0 : Int32))] [(.int (0 : Int32)), (.ref t), (.int (-1640531527 : Int32))]))
  obtain ⟨cl2, Ar2, qq2, Ss2, Nn2, Hh2, Gg2⟩ := id V_t
  have hin2 : ¬ ((0 : Int32) < 0 ∨ cl2.slots.size ≤ ((0 : Int32)).toNatClampNeg) := inb_of Ss2 ⟨by decide, by decide⟩
  have hat2 : cl2.slots[((0 : Int32)).toNatClampNeg]? = some (.int xx) := Hh2.at hin2 (rfl)
  refine own_st (X0.iaload hx (j := (0 : Int32)) (v := (.int xx)) (by rw [e0]; exact Ar2.1) (State.isArrayOf_alike hZ.alike Ar2.2.1) Ar2.2.2 hin2 hat2 (g := (mkF m 18 #[.val (.ref t), .val (.int (0 : Int32)), .val (.int (2 : Int32)), .val (.int (-1640531527 : Int32)), .val (.int (0 : Int32))] [(.int (0 : Int32)), (.ref t), (.int (-1640531527 : Int32))])) rfl rfl (hb hby own_d_prog_7_method_9_code_18)) ?_
  show own_Gl _ _ _ _ _ _ _ (s₁.setTop (mkF m 19 #[.val (.ref t), .val (.int (0 : Int32)), .val (.int (2 : Int32)), .val (.int (-1640531527 : Int32)), .val (.int (0 : Int32))] [(.int xx), (.int (-1640531527 : Int32))]))
  refine own_st (fun _ k => XS.ixor X0.here hx rfl (hb hby own_d_prog_7_method_9_code_19) rfl k) ?_
  show own_Gl _ _ _ _ _ _ _ (s₁.setTop (mkF m 20 #[.val (.ref t), .val (.int (0 : Int32)), .val (.int (2 : Int32)), .val (.int (-1640531527 : Int32)), .val (.int (0 : Int32))] [(.int ((-1640531527 : Int32) ^^^ xx))]))
  refine own_st (X0.ldcInt hx hown (mvT hZ (hw _ (List.mem_of_getElem? (i := 47) rfl))) (g := (mkF m 20 #[.val (.ref t), .val (.int (0 : Int32)), .val (.int (2 : Int32)), .val (.int (-1640531527 : Int32)), .val (.int (0 : Int32))] [(.int ((-1640531527 : Int32) ^^^ xx))])) rfl (hb hby own_d_prog_7_method_9_code_20)) ?_
  show own_Gl _ _ _ _ _ _ _ (s₁.setTop (mkF m 22 #[.val (.ref t), .val (.int (0 : Int32)), .val (.int (2 : Int32)), .val (.int (-1640531527 : Int32)), .val (.int (0 : Int32))] [(.int (16777619 : Int32)), (.int ((-1640531527 : Int32) ^^^ xx))]))
  refine own_st (fun _ k => XS.imul X0.here hx rfl (hb hby own_d_prog_7_method_9_code_22) rfl k) ?_
  show own_Gl _ _ _ _ _ _ _ (s₁.setTop (mkF m 23 #[.val (.ref t), .val (.int (0 : Int32)), .val (.int (2 : Int32)), .val (.int (-1640531527 : Int32)), .val (.int (0 : Int32))] [(.int (((-1640531527 : Int32) ^^^ xx) * (16777619 : Int32)))]))
  refine own_st (fun _ k => XS.istoreN X0.here hx rfl (hb hby own_d_prog_7_method_9_code_23) rfl (l' := #[.val (.ref t), .val (.int (0 : Int32)), .val (.int (2 : Int32)), .val (.int (((-1640531527 : Int32) ^^^ xx) * (16777619 : Int32))), .val (.int (0 : Int32))]) rfl k) ?_
  show own_Gl _ _ _ _ _ _ _ (s₁.setTop (mkF m 24 #[.val (.ref t), .val (.int (0 : Int32)), .val (.int (2 : Int32)), .val (.int (((-1640531527 : Int32) ^^^ xx) * (16777619 : Int32))), .val (.int (0 : Int32))] []))
  refine own_st (fun _ k => XS.iloadN X0.here hx rfl (hb hby own_d_prog_7_method_9_code_24) rfl k) ?_
  show own_Gl _ _ _ _ _ _ _ (s₁.setTop (mkF m 25 #[.val (.ref t), .val (.int (0 : Int32)), .val (.int (2 : Int32)), .val (.int (((-1640531527 : Int32) ^^^ xx) * (16777619 : Int32))), .val (.int (0 : Int32))] [(.int (((-1640531527 : Int32) ^^^ xx) * (16777619 : Int32)))]))
  refine own_st (fun _ k => XS.iloadN X0.here hx rfl (hb hby own_d_prog_7_method_9_code_25) rfl k) ?_
  show own_Gl _ _ _ _ _ _ _ (s₁.setTop (mkF m 26 #[.val (.ref t), .val (.int (0 : Int32)), .val (.int (2 : Int32)), .val (.int (((-1640531527 : Int32) ^^^ xx) * (16777619 : Int32))), .val (.int (0 : Int32))] [(.int (((-1640531527 : Int32) ^^^ xx) * (16777619 : Int32))), (.int (((-1640531527 : Int32) ^^^ xx) * (16777619 : Int32)))]))
  refine own_st (fun _ k => XS.bipush X0.here hx rfl (hb hby own_d_prog_7_method_9_code_26) k) ?_
  show own_Gl _ _ _ _ _ _ _ (s₁.setTop (mkF m 28 #[.val (.ref t), .val (.int (0 : Int32)), .val (.int (2 : Int32)), .val (.int (((-1640531527 : Int32) ^^^ xx) * (16777619 : Int32))), .val (.int (0 : Int32))] [(.int (15 : Int32)), (.int (((-1640531527 : Int32) ^^^ xx) * (16777619 : Int32))), (.int (((-1640531527 : Int32) ^^^ xx) * (16777619 : Int32)))]))
  refine own_st (fun _ k => XS.iushr X0.here hx rfl (hb hby own_d_prog_7_method_9_code_28) rfl k) ?_
  show own_Gl _ _ _ _ _ _ _ (s₁.setTop (mkF m 29 #[.val (.ref t), .val (.int (0 : Int32)), .val (.int (2 : Int32)), .val (.int (((-1640531527 : Int32) ^^^ xx) * (16777619 : Int32))), .val (.int (0 : Int32))] [(.int (((((-1640531527 : Int32) ^^^ xx) * (16777619 : Int32)).toUInt32 >>> ((15 : Int32) &&& 31).toUInt32).toInt32)), (.int (((-1640531527 : Int32) ^^^ xx) * (16777619 : Int32)))]))
  refine own_st (fun _ k => XS.ixor X0.here hx rfl (hb hby own_d_prog_7_method_9_code_29) rfl k) ?_
  show own_Gl _ _ _ _ _ _ _ (s₁.setTop (mkF m 30 #[.val (.ref t), .val (.int (0 : Int32)), .val (.int (2 : Int32)), .val (.int (((-1640531527 : Int32) ^^^ xx) * (16777619 : Int32))), .val (.int (0 : Int32))] [(.int ((((-1640531527 : Int32) ^^^ xx) * (16777619 : Int32)) ^^^ (((((-1640531527 : Int32) ^^^ xx) * (16777619 : Int32)).toUInt32 >>> ((15 : Int32) &&& 31).toUInt32).toInt32)))]))
  refine own_st (fun _ k => XS.istoreN X0.here hx rfl (hb hby own_d_prog_7_method_9_code_30) rfl (l' := #[.val (.ref t), .val (.int (0 : Int32)), .val (.int (2 : Int32)), .val (.int ((((-1640531527 : Int32) ^^^ xx) * (16777619 : Int32)) ^^^ (((((-1640531527 : Int32) ^^^ xx) * (16777619 : Int32)).toUInt32 >>> ((15 : Int32) &&& 31).toUInt32).toInt32))), .val (.int (0 : Int32))]) rfl k) ?_
  show own_Gl _ _ _ _ _ _ _ (s₁.setTop (mkF m 31 #[.val (.ref t), .val (.int (0 : Int32)), .val (.int (2 : Int32)), .val (.int ((((-1640531527 : Int32) ^^^ xx) * (16777619 : Int32)) ^^^ (((((-1640531527 : Int32) ^^^ xx) * (16777619 : Int32)).toUInt32 >>> ((15 : Int32) &&& 31).toUInt32).toInt32))), .val (.int (0 : Int32))] []))
  refine own_st (fun _ k => XS.iinc X0.here hx rfl (hb hby own_d_prog_7_method_9_code_31) rfl (l' := #[.val (.ref t), .val (.int (0 : Int32)), .val (.int (2 : Int32)), .val (.int ((((-1640531527 : Int32) ^^^ xx) * (16777619 : Int32)) ^^^ (((((-1640531527 : Int32) ^^^ xx) * (16777619 : Int32)).toUInt32 >>> ((15 : Int32) &&& 31).toUInt32).toInt32))), .val (.int (1 : Int32))]) rfl k) ?_
  show own_Gl _ _ _ _ _ _ _ (s₁.setTop (mkF m 34 #[.val (.ref t), .val (.int (0 : Int32)), .val (.int (2 : Int32)), .val (.int ((((-1640531527 : Int32) ^^^ xx) * (16777619 : Int32)) ^^^ (((((-1640531527 : Int32) ^^^ xx) * (16777619 : Int32)).toUInt32 >>> ((15 : Int32) &&& 31).toUInt32).toInt32))), .val (.int (1 : Int32))] []))
  refine own_st (fun _ k => XS.goto X0.here hx rfl (pc0 := 34) (pc' := 6) rfl (hb hby own_d_prog_7_method_9_code_34) (by decide) (by decide) k) ?_
  show own_Gl _ _ _ _ _ _ _ (s₁.setTop (mkF m 6 #[.val (.ref t), .val (.int (0 : Int32)), .val (.int (2 : Int32)), .val (.int ((((-1640531527 : Int32) ^^^ xx) * (16777619 : Int32)) ^^^ (((((-1640531527 : Int32) ^^^ xx) * (16777619 : Int32)).toUInt32 >>> ((15 : Int32) &&& 31).toUInt32).toInt32))), .val (.int (1 : Int32))] []))
  refine own_st (fun _ k => XS.iload X0.here hx rfl (hb hby own_d_prog_7_method_9_code_6) rfl k) ?_
  show own_Gl _ _ _ _ _ _ _ (s₁.setTop (mkF m 8 #[.val (.ref t), .val (.int (0 : Int32)), .val (.int (2 : Int32)), .val (.int ((((-1640531527 : Int32) ^^^ xx) * (16777619 : Int32)) ^^^ (((((-1640531527 : Int32) ^^^ xx) * (16777619 : Int32)).toUInt32 >>> ((15 : Int32) &&& 31).toUInt32).toInt32))), .val (.int (1 : Int32))] [(.int (1 : Int32))]))
  refine own_st (fun _ k => XS.iloadN X0.here hx rfl (hb hby own_d_prog_7_method_9_code_8) rfl k) ?_
  show own_Gl _ _ _ _ _ _ _ (s₁.setTop (mkF m 9 #[.val (.ref t), .val (.int (0 : Int32)), .val (.int (2 : Int32)), .val (.int ((((-1640531527 : Int32) ^^^ xx) * (16777619 : Int32)) ^^^ (((((-1640531527 : Int32) ^^^ xx) * (16777619 : Int32)).toUInt32 >>> ((15 : Int32) &&& 31).toUInt32).toInt32))), .val (.int (1 : Int32))] [(.int (0 : Int32)), (.int (1 : Int32))]))
  refine own_st (fun _ k => XS.iloadN X0.here hx rfl (hb hby own_d_prog_7_method_9_code_9) rfl k) ?_
  show own_Gl _ _ _ _ _ _ _ (s₁.setTop (mkF m 10 #[.val (.ref t), .val (.int (0 : Int32)), .val (.int (2 : Int32)), .val (.int ((((-1640531527 : Int32) ^^^ xx) * (16777619 : Int32)) ^^^ (((((-1640531527 : Int32) ^^^ xx) * (16777619 : Int32)).toUInt32 >>> ((15 : Int32) &&& 31).toUInt32).toInt32))), .val (.int (1 : Int32))] [(.int (2 : Int32)), (.int (0 : Int32)), (.int (1 : Int32))]))
  refine own_st (fun _ k => XS.iadd X0.here hx rfl (hb hby own_d_prog_7_method_9_code_10) rfl k) ?_
  show own_Gl _ _ _ _ _ _ _ (s₁.setTop (mkF m 11 #[.val (.ref t), .val (.int (0 : Int32)), .val (.int (2 : Int32)), .val (.int ((((-1640531527 : Int32) ^^^ xx) * (16777619 : Int32)) ^^^ (((((-1640531527 : Int32) ^^^ xx) * (16777619 : Int32)).toUInt32 >>> ((15 : Int32) &&& 31).toUInt32).toInt32))), .val (.int (1 : Int32))] [(.int (2 : Int32)), (.int (1 : Int32))]))
  have hd3 : (1 : Int32) < (2 : Int32) := (by decide)
  refine own_st (fun _ k => XS.icmpNo X0.here hx rfl (hb hby own_d_prog_7_method_9_code_11) rfl (tlt hd3).2.1 k) ?_
  show own_Gl _ _ _ _ _ _ _ (s₁.setTop (mkF m 14 #[.val (.ref t), .val (.int (0 : Int32)), .val (.int (2 : Int32)), .val (.int ((((-1640531527 : Int32) ^^^ xx) * (16777619 : Int32)) ^^^ (((((-1640531527 : Int32) ^^^ xx) * (16777619 : Int32)).toUInt32 >>> ((15 : Int32) &&& 31).toUInt32).toInt32))), .val (.int (1 : Int32))] []))
  refine own_st (fun _ k => XS.iloadN X0.here hx rfl (hb hby own_d_prog_7_method_9_code_14) rfl k) ?_
  show own_Gl _ _ _ _ _ _ _ (s₁.setTop (mkF m 15 #[.val (.ref t), .val (.int (0 : Int32)), .val (.int (2 : Int32)), .val (.int ((((-1640531527 : Int32) ^^^ xx) * (16777619 : Int32)) ^^^ (((((-1640531527 : Int32) ^^^ xx) * (16777619 : Int32)).toUInt32 >>> ((15 : Int32) &&& 31).toUInt32).toInt32))), .val (.int (1 : Int32))] [(.int ((((-1640531527 : Int32) ^^^ xx) * (16777619 : Int32)) ^^^ (((((-1640531527 : Int32) ^^^ xx) * (16777619 : Int32)).toUInt32 >>> ((15 : Int32) &&& 31).toUInt32).toInt32)))]))
  refine own_st (fun _ k => XS.aloadN X0.here hx rfl (hb hby own_d_prog_7_method_9_code_15) rfl rfl k) ?_
  show own_Gl _ _ _ _ _ _ _ (s₁.setTop (mkF m 16 #[.val (.ref t), .val (.int (0 : Int32)), .val (.int (2 : Int32)), .val (.int ((((-1640531527 : Int32) ^^^ xx) * (16777619 : Int32)) ^^^ (((((-1640531527 : Int32) ^^^ xx) * (16777619 : Int32)).toUInt32 >>> ((15 : Int32) &&& 31).toUInt32).toInt32))), .val (.int (1 : Int32))] [(.ref t), (.int ((((-1640531527 : Int32) ^^^ xx) * (16777619 : Int32)) ^^^ (((((-1640531527 : Int32) ^^^ xx) * (16777619 : Int32)).toUInt32 >>> ((15 : Int32) &&& 31).toUInt32).toInt32)))]))
  refine own_st (fun _ k => XS.iload X0.here hx rfl (hb hby own_d_prog_7_method_9_code_16) rfl k) ?_
  show own_Gl _ _ _ _ _ _ _ (s₁.setTop (mkF m 18 #[.val (.ref t), .val (.int (0 : Int32)), .val (.int (2 : Int32)), .val (.int ((((-1640531527 : Int32) ^^^ xx) * (16777619 : Int32)) ^^^ (((((-1640531527 : Int32) ^^^ xx) * (16777619 : Int32)).toUInt32 >>> ((15 : Int32) &&& 31).toUInt32).toInt32))), .val (.int (1 : Int32))] [(.int (1 : Int32)), (.ref t), (.int ((((-1640531527 : Int32) ^^^ xx) * (16777619 : Int32)) ^^^ (((((-1640531527 : Int32) ^^^ xx) * (16777619 : Int32)).toUInt32 >>> ((15 : Int32) &&& 31).toUInt32).toInt32)))]))
  obtain ⟨cl4, Ar4, qq4, Ss4, Nn4, Hh4, Gg4⟩ := id V_t
  have hin4 : ¬ ((1 : Int32) < 0 ∨ cl4.slots.size ≤ ((1 : Int32)).toNatClampNeg) := inb_of Ss4 ⟨by decide, by decide⟩
  have hat4 : cl4.slots[((1 : Int32)).toNatClampNeg]? = some (.int yy) := Hh4.at hin4 (rfl)
  refine own_st (X0.iaload hx (j := (1 : Int32)) (v := (.int yy)) (by rw [e0]; exact Ar4.1) (State.isArrayOf_alike hZ.alike Ar4.2.1) Ar4.2.2 hin4 hat4 (g := (mkF m 18 #[.val (.ref t), .val (.int (0 : Int32)), .val (.int (2 : Int32)), .val (.int ((((-1640531527 : Int32) ^^^ xx) * (16777619 : Int32)) ^^^ (((((-1640531527 : Int32) ^^^ xx) * (16777619 : Int32)).toUInt32 >>> ((15 : Int32) &&& 31).toUInt32).toInt32))), .val (.int (1 : Int32))] [(.int (1 : Int32)), (.ref t), (.int ((((-1640531527 : Int32) ^^^ xx) * (16777619 : Int32)) ^^^ (((((-1640531527 : Int32) ^^^ xx) * (16777619 : Int32)).toUInt32 >>> ((15 : Int32) &&& 31).toUInt32).toInt32)))])) rfl rfl (hb hby own_d_prog_7_method_9_code_18)) ?_
  show own_Gl _ _ _ _ _ _ _ (s₁.setTop (mkF m 19 #[.val (.ref t), .val (.int (0 : Int32)), .val (.int (2 : Int32)), .val (.int ((((-1640531527 : Int32) ^^^ xx) * (16777619 : Int32)) ^^^ (((((-1640531527 : Int32) ^^^ xx) * (16777619 : Int32)).toUInt32 >>> ((15 : Int32) &&& 31).toUInt32).toInt32))), .val (.int (1 : Int32))] [(.int yy), (.int ((((-1640531527 : Int32) ^^^ xx) * (16777619 : Int32)) ^^^ (((((-1640531527 : Int32) ^^^ xx) * (16777619 : Int32)).toUInt32 >>> ((15 : Int32) &&& 31).toUInt32).toInt32)))]))
  refine own_st (fun _ k => XS.ixor X0.here hx rfl (hb hby own_d_prog_7_method_9_code_19) rfl k) ?_
  show own_Gl _ _ _ _ _ _ _ (s₁.setTop (mkF m 20 #[.val (.ref t), .val (.int (0 : Int32)), .val (.int (2 : Int32)), .val (.int ((((-1640531527 : Int32) ^^^ xx) * (16777619 : Int32)) ^^^ (((((-1640531527 : Int32) ^^^ xx) * (16777619 : Int32)).toUInt32 >>> ((15 : Int32) &&& 31).toUInt32).toInt32))), .val (.int (1 : Int32))] [(.int (((((-1640531527 : Int32) ^^^ xx) * (16777619 : Int32)) ^^^ (((((-1640531527 : Int32) ^^^ xx) * (16777619 : Int32)).toUInt32 >>> ((15 : Int32) &&& 31).toUInt32).toInt32)) ^^^ yy))]))
  refine own_st (X0.ldcInt hx hown (mvT hZ (hw _ (List.mem_of_getElem? (i := 47) rfl))) (g := (mkF m 20 #[.val (.ref t), .val (.int (0 : Int32)), .val (.int (2 : Int32)), .val (.int ((((-1640531527 : Int32) ^^^ xx) * (16777619 : Int32)) ^^^ (((((-1640531527 : Int32) ^^^ xx) * (16777619 : Int32)).toUInt32 >>> ((15 : Int32) &&& 31).toUInt32).toInt32))), .val (.int (1 : Int32))] [(.int (((((-1640531527 : Int32) ^^^ xx) * (16777619 : Int32)) ^^^ (((((-1640531527 : Int32) ^^^ xx) * (16777619 : Int32)).toUInt32 >>> ((15 : Int32) &&& 31).toUInt32).toInt32)) ^^^ yy))])) rfl (hb hby own_d_prog_7_method_9_code_20)) ?_
  show own_Gl _ _ _ _ _ _ _ (s₁.setTop (mkF m 22 #[.val (.ref t), .val (.int (0 : Int32)), .val (.int (2 : Int32)), .val (.int ((((-1640531527 : Int32) ^^^ xx) * (16777619 : Int32)) ^^^ (((((-1640531527 : Int32) ^^^ xx) * (16777619 : Int32)).toUInt32 >>> ((15 : Int32) &&& 31).toUInt32).toInt32))), .val (.int (1 : Int32))] [(.int (16777619 : Int32)), (.int (((((-1640531527 : Int32) ^^^ xx) * (16777619 : Int32)) ^^^ (((((-1640531527 : Int32) ^^^ xx) * (16777619 : Int32)).toUInt32 >>> ((15 : Int32) &&& 31).toUInt32).toInt32)) ^^^ yy))]))
  refine own_st (fun _ k => XS.imul X0.here hx rfl (hb hby own_d_prog_7_method_9_code_22) rfl k) ?_
  show own_Gl _ _ _ _ _ _ _ (s₁.setTop (mkF m 23 #[.val (.ref t), .val (.int (0 : Int32)), .val (.int (2 : Int32)), .val (.int ((((-1640531527 : Int32) ^^^ xx) * (16777619 : Int32)) ^^^ (((((-1640531527 : Int32) ^^^ xx) * (16777619 : Int32)).toUInt32 >>> ((15 : Int32) &&& 31).toUInt32).toInt32))), .val (.int (1 : Int32))] [(.int ((((((-1640531527 : Int32) ^^^ xx) * (16777619 : Int32)) ^^^ (((((-1640531527 : Int32) ^^^ xx) * (16777619 : Int32)).toUInt32 >>> ((15 : Int32) &&& 31).toUInt32).toInt32)) ^^^ yy) * (16777619 : Int32)))]))
  refine own_st (fun _ k => XS.istoreN X0.here hx rfl (hb hby own_d_prog_7_method_9_code_23) rfl (l' := #[.val (.ref t), .val (.int (0 : Int32)), .val (.int (2 : Int32)), .val (.int ((((((-1640531527 : Int32) ^^^ xx) * (16777619 : Int32)) ^^^ (((((-1640531527 : Int32) ^^^ xx) * (16777619 : Int32)).toUInt32 >>> ((15 : Int32) &&& 31).toUInt32).toInt32)) ^^^ yy) * (16777619 : Int32))), .val (.int (1 : Int32))]) rfl k) ?_
  show own_Gl _ _ _ _ _ _ _ (s₁.setTop (mkF m 24 #[.val (.ref t), .val (.int (0 : Int32)), .val (.int (2 : Int32)), .val (.int ((((((-1640531527 : Int32) ^^^ xx) * (16777619 : Int32)) ^^^ (((((-1640531527 : Int32) ^^^ xx) * (16777619 : Int32)).toUInt32 >>> ((15 : Int32) &&& 31).toUInt32).toInt32)) ^^^ yy) * (16777619 : Int32))), .val (.int (1 : Int32))] []))
  refine own_st (fun _ k => XS.iloadN X0.here hx rfl (hb hby own_d_prog_7_method_9_code_24) rfl k) ?_
  show own_Gl _ _ _ _ _ _ _ (s₁.setTop (mkF m 25 #[.val (.ref t), .val (.int (0 : Int32)), .val (.int (2 : Int32)), .val (.int ((((((-1640531527 : Int32) ^^^ xx) * (16777619 : Int32)) ^^^ (((((-1640531527 : Int32) ^^^ xx) * (16777619 : Int32)).toUInt32 >>> ((15 : Int32) &&& 31).toUInt32).toInt32)) ^^^ yy) * (16777619 : Int32))), .val (.int (1 : Int32))] [(.int ((((((-1640531527 : Int32) ^^^ xx) * (16777619 : Int32)) ^^^ (((((-1640531527 : Int32) ^^^ xx) * (16777619 : Int32)).toUInt32 >>> ((15 : Int32) &&& 31).toUInt32).toInt32)) ^^^ yy) * (16777619 : Int32)))]))
  refine own_st (fun _ k => XS.iloadN X0.here hx rfl (hb hby own_d_prog_7_method_9_code_25) rfl k) ?_
  show own_Gl _ _ _ _ _ _ _ (s₁.setTop (mkF m 26 #[.val (.ref t), .val (.int (0 : Int32)), .val (.int (2 : Int32)), .val (.int ((((((-1640531527 : Int32) ^^^ xx) * (16777619 : Int32)) ^^^ (((((-1640531527 : Int32) ^^^ xx) * (16777619 : Int32)).toUInt32 >>> ((15 : Int32) &&& 31).toUInt32).toInt32)) ^^^ yy) * (16777619 : Int32))), .val (.int (1 : Int32))] [(.int ((((((-1640531527 : Int32) ^^^ xx) * (16777619 : Int32)) ^^^ (((((-1640531527 : Int32) ^^^ xx) * (16777619 : Int32)).toUInt32 >>> ((15 : Int32) &&& 31).toUInt32).toInt32)) ^^^ yy) * (16777619 : Int32))), (.int ((((((-1640531527 : Int32) ^^^ xx) * (16777619 : Int32)) ^^^ (((((-1640531527 : Int32) ^^^ xx) * (16777619 : Int32)).toUInt32 >>> ((15 : Int32) &&& 31).toUInt32).toInt32)) ^^^ yy) * (16777619 : Int32)))]))
  refine own_st (fun _ k => XS.bipush X0.here hx rfl (hb hby own_d_prog_7_method_9_code_26) k) ?_
  show own_Gl _ _ _ _ _ _ _ (s₁.setTop (mkF m 28 #[.val (.ref t), .val (.int (0 : Int32)), .val (.int (2 : Int32)), .val (.int ((((((-1640531527 : Int32) ^^^ xx) * (16777619 : Int32)) ^^^ (((((-1640531527 : Int32) ^^^ xx) * (16777619 : Int32)).toUInt32 >>> ((15 : Int32) &&& 31).toUInt32).toInt32)) ^^^ yy) * (16777619 : Int32))), .val (.int (1 : Int32))] [(.int (15 : Int32)), (.int ((((((-1640531527 : Int32) ^^^ xx) * (16777619 : Int32)) ^^^ (((((-1640531527 : Int32) ^^^ xx) * (16777619 : Int32)).toUInt32 >>> ((15 : Int32) &&& 31).toUInt32).toInt32)) ^^^ yy) * (16777619 : Int32))), (.int ((((((-1640531527 : Int32) ^^^ xx) * (16777619 : Int32)) ^^^ (((((-1640531527 : Int32) ^^^ xx) * (16777619 : Int32)).toUInt32 >>> ((15 : Int32) &&& 31).toUInt32).toInt32)) ^^^ yy) * (16777619 : Int32)))]))
  refine own_st (fun _ k => XS.iushr X0.here hx rfl (hb hby own_d_prog_7_method_9_code_28) rfl k) ?_
  show own_Gl _ _ _ _ _ _ _ (s₁.setTop (mkF m 29 #[.val (.ref t), .val (.int (0 : Int32)), .val (.int (2 : Int32)), .val (.int ((((((-1640531527 : Int32) ^^^ xx) * (16777619 : Int32)) ^^^ (((((-1640531527 : Int32) ^^^ xx) * (16777619 : Int32)).toUInt32 >>> ((15 : Int32) &&& 31).toUInt32).toInt32)) ^^^ yy) * (16777619 : Int32))), .val (.int (1 : Int32))] [(.int ((((((((-1640531527 : Int32) ^^^ xx) * (16777619 : Int32)) ^^^ (((((-1640531527 : Int32) ^^^ xx) * (16777619 : Int32)).toUInt32 >>> ((15 : Int32) &&& 31).toUInt32).toInt32)) ^^^ yy) * (16777619 : Int32)).toUInt32 >>> ((15 : Int32) &&& 31).toUInt32).toInt32)), (.int ((((((-1640531527 : Int32) ^^^ xx) * (16777619 : Int32)) ^^^ (((((-1640531527 : Int32) ^^^ xx) * (16777619 : Int32)).toUInt32 >>> ((15 : Int32) &&& 31).toUInt32).toInt32)) ^^^ yy) * (16777619 : Int32)))]))
  refine own_st (fun _ k => XS.ixor X0.here hx rfl (hb hby own_d_prog_7_method_9_code_29) rfl k) ?_
  show own_Gl _ _ _ _ _ _ _ (s₁.setTop (mkF m 30 #[.val (.ref t), .val (.int (0 : Int32)), .val (.int (2 : Int32)), .val (.int ((((((-1640531527 : Int32) ^^^ xx) * (16777619 : Int32)) ^^^ (((((-1640531527 : Int32) ^^^ xx) * (16777619 : Int32)).toUInt32 >>> ((15 : Int32) &&& 31).toUInt32).toInt32)) ^^^ yy) * (16777619 : Int32))), .val (.int (1 : Int32))] [(.int (((((((-1640531527 : Int32) ^^^ xx) * (16777619 : Int32)) ^^^ (((((-1640531527 : Int32) ^^^ xx) * (16777619 : Int32)).toUInt32 >>> ((15 : Int32) &&& 31).toUInt32).toInt32)) ^^^ yy) * (16777619 : Int32)) ^^^ ((((((((-1640531527 : Int32) ^^^ xx) * (16777619 : Int32)) ^^^ (((((-1640531527 : Int32) ^^^ xx) * (16777619 : Int32)).toUInt32 >>> ((15 : Int32) &&& 31).toUInt32).toInt32)) ^^^ yy) * (16777619 : Int32)).toUInt32 >>> ((15 : Int32) &&& 31).toUInt32).toInt32)))]))
  refine own_st (fun _ k => XS.istoreN X0.here hx rfl (hb hby own_d_prog_7_method_9_code_30) rfl (l' := #[.val (.ref t), .val (.int (0 : Int32)), .val (.int (2 : Int32)), .val (.int (((((((-1640531527 : Int32) ^^^ xx) * (16777619 : Int32)) ^^^ (((((-1640531527 : Int32) ^^^ xx) * (16777619 : Int32)).toUInt32 >>> ((15 : Int32) &&& 31).toUInt32).toInt32)) ^^^ yy) * (16777619 : Int32)) ^^^ ((((((((-1640531527 : Int32) ^^^ xx) * (16777619 : Int32)) ^^^ (((((-1640531527 : Int32) ^^^ xx) * (16777619 : Int32)).toUInt32 >>> ((15 : Int32) &&& 31).toUInt32).toInt32)) ^^^ yy) * (16777619 : Int32)).toUInt32 >>> ((15 : Int32) &&& 31).toUInt32).toInt32))), .val (.int (1 : Int32))]) rfl k) ?_
  show own_Gl _ _ _ _ _ _ _ (s₁.setTop (mkF m 31 #[.val (.ref t), .val (.int (0 : Int32)), .val (.int (2 : Int32)), .val (.int (((((((-1640531527 : Int32) ^^^ xx) * (16777619 : Int32)) ^^^ (((((-1640531527 : Int32) ^^^ xx) * (16777619 : Int32)).toUInt32 >>> ((15 : Int32) &&& 31).toUInt32).toInt32)) ^^^ yy) * (16777619 : Int32)) ^^^ ((((((((-1640531527 : Int32) ^^^ xx) * (16777619 : Int32)) ^^^ (((((-1640531527 : Int32) ^^^ xx) * (16777619 : Int32)).toUInt32 >>> ((15 : Int32) &&& 31).toUInt32).toInt32)) ^^^ yy) * (16777619 : Int32)).toUInt32 >>> ((15 : Int32) &&& 31).toUInt32).toInt32))), .val (.int (1 : Int32))] []))
  refine own_st (fun _ k => XS.iinc X0.here hx rfl (hb hby own_d_prog_7_method_9_code_31) rfl (l' := #[.val (.ref t), .val (.int (0 : Int32)), .val (.int (2 : Int32)), .val (.int (((((((-1640531527 : Int32) ^^^ xx) * (16777619 : Int32)) ^^^ (((((-1640531527 : Int32) ^^^ xx) * (16777619 : Int32)).toUInt32 >>> ((15 : Int32) &&& 31).toUInt32).toInt32)) ^^^ yy) * (16777619 : Int32)) ^^^ ((((((((-1640531527 : Int32) ^^^ xx) * (16777619 : Int32)) ^^^ (((((-1640531527 : Int32) ^^^ xx) * (16777619 : Int32)).toUInt32 >>> ((15 : Int32) &&& 31).toUInt32).toInt32)) ^^^ yy) * (16777619 : Int32)).toUInt32 >>> ((15 : Int32) &&& 31).toUInt32).toInt32))), .val (.int (2 : Int32))]) rfl k) ?_
  show own_Gl _ _ _ _ _ _ _ (s₁.setTop (mkF m 34 #[.val (.ref t), .val (.int (0 : Int32)), .val (.int (2 : Int32)), .val (.int (((((((-1640531527 : Int32) ^^^ xx) * (16777619 : Int32)) ^^^ (((((-1640531527 : Int32) ^^^ xx) * (16777619 : Int32)).toUInt32 >>> ((15 : Int32) &&& 31).toUInt32).toInt32)) ^^^ yy) * (16777619 : Int32)) ^^^ ((((((((-1640531527 : Int32) ^^^ xx) * (16777619 : Int32)) ^^^ (((((-1640531527 : Int32) ^^^ xx) * (16777619 : Int32)).toUInt32 >>> ((15 : Int32) &&& 31).toUInt32).toInt32)) ^^^ yy) * (16777619 : Int32)).toUInt32 >>> ((15 : Int32) &&& 31).toUInt32).toInt32))), .val (.int (2 : Int32))] []))
  refine own_st (fun _ k => XS.goto X0.here hx rfl (pc0 := 34) (pc' := 6) rfl (hb hby own_d_prog_7_method_9_code_34) (by decide) (by decide) k) ?_
  show own_Gl _ _ _ _ _ _ _ (s₁.setTop (mkF m 6 #[.val (.ref t), .val (.int (0 : Int32)), .val (.int (2 : Int32)), .val (.int (((((((-1640531527 : Int32) ^^^ xx) * (16777619 : Int32)) ^^^ (((((-1640531527 : Int32) ^^^ xx) * (16777619 : Int32)).toUInt32 >>> ((15 : Int32) &&& 31).toUInt32).toInt32)) ^^^ yy) * (16777619 : Int32)) ^^^ ((((((((-1640531527 : Int32) ^^^ xx) * (16777619 : Int32)) ^^^ (((((-1640531527 : Int32) ^^^ xx) * (16777619 : Int32)).toUInt32 >>> ((15 : Int32) &&& 31).toUInt32).toInt32)) ^^^ yy) * (16777619 : Int32)).toUInt32 >>> ((15 : Int32) &&& 31).toUInt32).toInt32))), .val (.int (2 : Int32))] []))
  refine own_st (fun _ k => XS.iload X0.here hx rfl (hb hby own_d_prog_7_method_9_code_6) rfl k) ?_
  show own_Gl _ _ _ _ _ _ _ (s₁.setTop (mkF m 8 #[.val (.ref t), .val (.int (0 : Int32)), .val (.int (2 : Int32)), .val (.int (((((((-1640531527 : Int32) ^^^ xx) * (16777619 : Int32)) ^^^ (((((-1640531527 : Int32) ^^^ xx) * (16777619 : Int32)).toUInt32 >>> ((15 : Int32) &&& 31).toUInt32).toInt32)) ^^^ yy) * (16777619 : Int32)) ^^^ ((((((((-1640531527 : Int32) ^^^ xx) * (16777619 : Int32)) ^^^ (((((-1640531527 : Int32) ^^^ xx) * (16777619 : Int32)).toUInt32 >>> ((15 : Int32) &&& 31).toUInt32).toInt32)) ^^^ yy) * (16777619 : Int32)).toUInt32 >>> ((15 : Int32) &&& 31).toUInt32).toInt32))), .val (.int (2 : Int32))] [(.int (2 : Int32))]))
  refine own_st (fun _ k => XS.iloadN X0.here hx rfl (hb hby own_d_prog_7_method_9_code_8) rfl k) ?_
  show own_Gl _ _ _ _ _ _ _ (s₁.setTop (mkF m 9 #[.val (.ref t), .val (.int (0 : Int32)), .val (.int (2 : Int32)), .val (.int (((((((-1640531527 : Int32) ^^^ xx) * (16777619 : Int32)) ^^^ (((((-1640531527 : Int32) ^^^ xx) * (16777619 : Int32)).toUInt32 >>> ((15 : Int32) &&& 31).toUInt32).toInt32)) ^^^ yy) * (16777619 : Int32)) ^^^ ((((((((-1640531527 : Int32) ^^^ xx) * (16777619 : Int32)) ^^^ (((((-1640531527 : Int32) ^^^ xx) * (16777619 : Int32)).toUInt32 >>> ((15 : Int32) &&& 31).toUInt32).toInt32)) ^^^ yy) * (16777619 : Int32)).toUInt32 >>> ((15 : Int32) &&& 31).toUInt32).toInt32))), .val (.int (2 : Int32))] [(.int (0 : Int32)), (.int (2 : Int32))]))
  refine own_st (fun _ k => XS.iloadN X0.here hx rfl (hb hby own_d_prog_7_method_9_code_9) rfl k) ?_
  show own_Gl _ _ _ _ _ _ _ (s₁.setTop (mkF m 10 #[.val (.ref t), .val (.int (0 : Int32)), .val (.int (2 : Int32)), .val (.int (((((((-1640531527 : Int32) ^^^ xx) * (16777619 : Int32)) ^^^ (((((-1640531527 : Int32) ^^^ xx) * (16777619 : Int32)).toUInt32 >>> ((15 : Int32) &&& 31).toUInt32).toInt32)) ^^^ yy) * (16777619 : Int32)) ^^^ ((((((((-1640531527 : Int32) ^^^ xx) * (16777619 : Int32)) ^^^ (((((-1640531527 : Int32) ^^^ xx) * (16777619 : Int32)).toUInt32 >>> ((15 : Int32) &&& 31).toUInt32).toInt32)) ^^^ yy) * (16777619 : Int32)).toUInt32 >>> ((15 : Int32) &&& 31).toUInt32).toInt32))), .val (.int (2 : Int32))] [(.int (2 : Int32)), (.int (0 : Int32)), (.int (2 : Int32))]))
  refine own_st (fun _ k => XS.iadd X0.here hx rfl (hb hby own_d_prog_7_method_9_code_10) rfl k) ?_
  show own_Gl _ _ _ _ _ _ _ (s₁.setTop (mkF m 11 #[.val (.ref t), .val (.int (0 : Int32)), .val (.int (2 : Int32)), .val (.int (((((((-1640531527 : Int32) ^^^ xx) * (16777619 : Int32)) ^^^ (((((-1640531527 : Int32) ^^^ xx) * (16777619 : Int32)).toUInt32 >>> ((15 : Int32) &&& 31).toUInt32).toInt32)) ^^^ yy) * (16777619 : Int32)) ^^^ ((((((((-1640531527 : Int32) ^^^ xx) * (16777619 : Int32)) ^^^ (((((-1640531527 : Int32) ^^^ xx) * (16777619 : Int32)).toUInt32 >>> ((15 : Int32) &&& 31).toUInt32).toInt32)) ^^^ yy) * (16777619 : Int32)).toUInt32 >>> ((15 : Int32) &&& 31).toUInt32).toInt32))), .val (.int (2 : Int32))] [(.int (2 : Int32)), (.int (2 : Int32))]))
  have hd5 : ¬ ((2 : Int32) < (2 : Int32)) := (by decide)
  refine own_st (fun _ k => XS.icmpYes X0.here hx rfl (pc0 := 11) (pc' := 37) rfl (hb hby own_d_prog_7_method_9_code_11) rfl (flt hd5).2.1 (by decide) (by decide) k) ?_
  show own_Gl _ _ _ _ _ _ _ (s₁.setTop (mkF m 37 #[.val (.ref t), .val (.int (0 : Int32)), .val (.int (2 : Int32)), .val (.int (((((((-1640531527 : Int32) ^^^ xx) * (16777619 : Int32)) ^^^ (((((-1640531527 : Int32) ^^^ xx) * (16777619 : Int32)).toUInt32 >>> ((15 : Int32) &&& 31).toUInt32).toInt32)) ^^^ yy) * (16777619 : Int32)) ^^^ ((((((((-1640531527 : Int32) ^^^ xx) * (16777619 : Int32)) ^^^ (((((-1640531527 : Int32) ^^^ xx) * (16777619 : Int32)).toUInt32 >>> ((15 : Int32) &&& 31).toUInt32).toInt32)) ^^^ yy) * (16777619 : Int32)).toUInt32 >>> ((15 : Int32) &&& 31).toUInt32).toInt32))), .val (.int (2 : Int32))] []))
  refine own_st (fun _ k => XS.iloadN X0.here hx rfl (hb hby own_d_prog_7_method_9_code_37) rfl k) ?_
  show own_Gl _ _ _ _ _ _ _ (s₁.setTop (mkF m 38 #[.val (.ref t), .val (.int (0 : Int32)), .val (.int (2 : Int32)), .val (.int (((((((-1640531527 : Int32) ^^^ xx) * (16777619 : Int32)) ^^^ (((((-1640531527 : Int32) ^^^ xx) * (16777619 : Int32)).toUInt32 >>> ((15 : Int32) &&& 31).toUInt32).toInt32)) ^^^ yy) * (16777619 : Int32)) ^^^ ((((((((-1640531527 : Int32) ^^^ xx) * (16777619 : Int32)) ^^^ (((((-1640531527 : Int32) ^^^ xx) * (16777619 : Int32)).toUInt32 >>> ((15 : Int32) &&& 31).toUInt32).toInt32)) ^^^ yy) * (16777619 : Int32)).toUInt32 >>> ((15 : Int32) &&& 31).toUInt32).toInt32))), .val (.int (2 : Int32))] [(.int (((((((-1640531527 : Int32) ^^^ xx) * (16777619 : Int32)) ^^^ (((((-1640531527 : Int32) ^^^ xx) * (16777619 : Int32)).toUInt32 >>> ((15 : Int32) &&& 31).toUInt32).toInt32)) ^^^ yy) * (16777619 : Int32)) ^^^ ((((((((-1640531527 : Int32) ^^^ xx) * (16777619 : Int32)) ^^^ (((((-1640531527 : Int32) ^^^ xx) * (16777619 : Int32)).toUInt32 >>> ((15 : Int32) &&& 31).toUInt32).toInt32)) ^^^ yy) * (16777619 : Int32)).toUInt32 >>> ((15 : Int32) &&& 31).toUInt32).toInt32)))]))
  refine own_st (X0.ldcInt hx hown (mvT hZ (hw _ (List.mem_of_getElem? (i := 48) rfl))) (g := (mkF m 38 #[.val (.ref t), .val (.int (0 : Int32)), .val (.int (2 : Int32)), .val (.int (((((((-1640531527 : Int32) ^^^ xx) * (16777619 : Int32)) ^^^ (((((-1640531527 : Int32) ^^^ xx) * (16777619 : Int32)).toUInt32 >>> ((15 : Int32) &&& 31).toUInt32).toInt32)) ^^^ yy) * (16777619 : Int32)) ^^^ ((((((((-1640531527 : Int32) ^^^ xx) * (16777619 : Int32)) ^^^ (((((-1640531527 : Int32) ^^^ xx) * (16777619 : Int32)).toUInt32 >>> ((15 : Int32) &&& 31).toUInt32).toInt32)) ^^^ yy) * (16777619 : Int32)).toUInt32 >>> ((15 : Int32) &&& 31).toUInt32).toInt32))), .val (.int (2 : Int32))] [(.int (((((((-1640531527 : Int32) ^^^ xx) * (16777619 : Int32)) ^^^ (((((-1640531527 : Int32) ^^^ xx) * (16777619 : Int32)).toUInt32 >>> ((15 : Int32) &&& 31).toUInt32).toInt32)) ^^^ yy) * (16777619 : Int32)) ^^^ ((((((((-1640531527 : Int32) ^^^ xx) * (16777619 : Int32)) ^^^ (((((-1640531527 : Int32) ^^^ xx) * (16777619 : Int32)).toUInt32 >>> ((15 : Int32) &&& 31).toUInt32).toInt32)) ^^^ yy) * (16777619 : Int32)).toUInt32 >>> ((15 : Int32) &&& 31).toUInt32).toInt32)))])) rfl (hb hby own_d_prog_7_method_9_code_38)) ?_
  show own_Gl _ _ _ _ _ _ _ (s₁.setTop (mkF m 40 #[.val (.ref t), .val (.int (0 : Int32)), .val (.int (2 : Int32)), .val (.int (((((((-1640531527 : Int32) ^^^ xx) * (16777619 : Int32)) ^^^ (((((-1640531527 : Int32) ^^^ xx) * (16777619 : Int32)).toUInt32 >>> ((15 : Int32) &&& 31).toUInt32).toInt32)) ^^^ yy) * (16777619 : Int32)) ^^^ ((((((((-1640531527 : Int32) ^^^ xx) * (16777619 : Int32)) ^^^ (((((-1640531527 : Int32) ^^^ xx) * (16777619 : Int32)).toUInt32 >>> ((15 : Int32) &&& 31).toUInt32).toInt32)) ^^^ yy) * (16777619 : Int32)).toUInt32 >>> ((15 : Int32) &&& 31).toUInt32).toInt32))), .val (.int (2 : Int32))] [(.int (-2048144789 : Int32)), (.int (((((((-1640531527 : Int32) ^^^ xx) * (16777619 : Int32)) ^^^ (((((-1640531527 : Int32) ^^^ xx) * (16777619 : Int32)).toUInt32 >>> ((15 : Int32) &&& 31).toUInt32).toInt32)) ^^^ yy) * (16777619 : Int32)) ^^^ ((((((((-1640531527 : Int32) ^^^ xx) * (16777619 : Int32)) ^^^ (((((-1640531527 : Int32) ^^^ xx) * (16777619 : Int32)).toUInt32 >>> ((15 : Int32) &&& 31).toUInt32).toInt32)) ^^^ yy) * (16777619 : Int32)).toUInt32 >>> ((15 : Int32) &&& 31).toUInt32).toInt32)))]))
  refine own_st (fun _ k => XS.imul X0.here hx rfl (hb hby own_d_prog_7_method_9_code_40) rfl k) ?_
  show own_Gl _ _ _ _ _ _ _ (s₁.setTop (mkF m 41 #[.val (.ref t), .val (.int (0 : Int32)), .val (.int (2 : Int32)), .val (.int (((((((-1640531527 : Int32) ^^^ xx) * (16777619 : Int32)) ^^^ (((((-1640531527 : Int32) ^^^ xx) * (16777619 : Int32)).toUInt32 >>> ((15 : Int32) &&& 31).toUInt32).toInt32)) ^^^ yy) * (16777619 : Int32)) ^^^ ((((((((-1640531527 : Int32) ^^^ xx) * (16777619 : Int32)) ^^^ (((((-1640531527 : Int32) ^^^ xx) * (16777619 : Int32)).toUInt32 >>> ((15 : Int32) &&& 31).toUInt32).toInt32)) ^^^ yy) * (16777619 : Int32)).toUInt32 >>> ((15 : Int32) &&& 31).toUInt32).toInt32))), .val (.int (2 : Int32))] [(.int ((((((((-1640531527 : Int32) ^^^ xx) * (16777619 : Int32)) ^^^ (((((-1640531527 : Int32) ^^^ xx) * (16777619 : Int32)).toUInt32 >>> ((15 : Int32) &&& 31).toUInt32).toInt32)) ^^^ yy) * (16777619 : Int32)) ^^^ ((((((((-1640531527 : Int32) ^^^ xx) * (16777619 : Int32)) ^^^ (((((-1640531527 : Int32) ^^^ xx) * (16777619 : Int32)).toUInt32 >>> ((15 : Int32) &&& 31).toUInt32).toInt32)) ^^^ yy) * (16777619 : Int32)).toUInt32 >>> ((15 : Int32) &&& 31).toUInt32).toInt32)) * (-2048144789 : Int32)))]))
  refine own_st (fun _ k => XS.istoreN X0.here hx rfl (hb hby own_d_prog_7_method_9_code_41) rfl (l' := #[.val (.ref t), .val (.int (0 : Int32)), .val (.int (2 : Int32)), .val (.int ((((((((-1640531527 : Int32) ^^^ xx) * (16777619 : Int32)) ^^^ (((((-1640531527 : Int32) ^^^ xx) * (16777619 : Int32)).toUInt32 >>> ((15 : Int32) &&& 31).toUInt32).toInt32)) ^^^ yy) * (16777619 : Int32)) ^^^ ((((((((-1640531527 : Int32) ^^^ xx) * (16777619 : Int32)) ^^^ (((((-1640531527 : Int32) ^^^ xx) * (16777619 : Int32)).toUInt32 >>> ((15 : Int32) &&& 31).toUInt32).toInt32)) ^^^ yy) * (16777619 : Int32)).toUInt32 >>> ((15 : Int32) &&& 31).toUInt32).toInt32)) * (-2048144789 : Int32))), .val (.int (2 : Int32))]) rfl k) ?_
  show own_Gl _ _ _ _ _ _ _ (s₁.setTop (mkF m 42 #[.val (.ref t), .val (.int (0 : Int32)), .val (.int (2 : Int32)), .val (.int ((((((((-1640531527 : Int32) ^^^ xx) * (16777619 : Int32)) ^^^ (((((-1640531527 : Int32) ^^^ xx) * (16777619 : Int32)).toUInt32 >>> ((15 : Int32) &&& 31).toUInt32).toInt32)) ^^^ yy) * (16777619 : Int32)) ^^^ ((((((((-1640531527 : Int32) ^^^ xx) * (16777619 : Int32)) ^^^ (((((-1640531527 : Int32) ^^^ xx) * (16777619 : Int32)).toUInt32 >>> ((15 : Int32) &&& 31).toUInt32).toInt32)) ^^^ yy) * (16777619 : Int32)).toUInt32 >>> ((15 : Int32) &&& 31).toUInt32).toInt32)) * (-2048144789 : Int32))), .val (.int (2 : Int32))] []))
  refine own_st (fun _ k => XS.iloadN X0.here hx rfl (hb hby own_d_prog_7_method_9_code_42) rfl k) ?_
  show own_Gl _ _ _ _ _ _ _ (s₁.setTop (mkF m 43 #[.val (.ref t), .val (.int (0 : Int32)), .val (.int (2 : Int32)), .val (.int ((((((((-1640531527 : Int32) ^^^ xx) * (16777619 : Int32)) ^^^ (((((-1640531527 : Int32) ^^^ xx) * (16777619 : Int32)).toUInt32 >>> ((15 : Int32) &&& 31).toUInt32).toInt32)) ^^^ yy) * (16777619 : Int32)) ^^^ ((((((((-1640531527 : Int32) ^^^ xx) * (16777619 : Int32)) ^^^ (((((-1640531527 : Int32) ^^^ xx) * (16777619 : Int32)).toUInt32 >>> ((15 : Int32) &&& 31).toUInt32).toInt32)) ^^^ yy) * (16777619 : Int32)).toUInt32 >>> ((15 : Int32) &&& 31).toUInt32).toInt32)) * (-2048144789 : Int32))), .val (.int (2 : Int32))] [(.int ((((((((-1640531527 : Int32) ^^^ xx) * (16777619 : Int32)) ^^^ (((((-1640531527 : Int32) ^^^ xx) * (16777619 : Int32)).toUInt32 >>> ((15 : Int32) &&& 31).toUInt32).toInt32)) ^^^ yy) * (16777619 : Int32)) ^^^ ((((((((-1640531527 : Int32) ^^^ xx) * (16777619 : Int32)) ^^^ (((((-1640531527 : Int32) ^^^ xx) * (16777619 : Int32)).toUInt32 >>> ((15 : Int32) &&& 31).toUInt32).toInt32)) ^^^ yy) * (16777619 : Int32)).toUInt32 >>> ((15 : Int32) &&& 31).toUInt32).toInt32)) * (-2048144789 : Int32)))]))
  refine own_st (fun _ k => XS.iloadN X0.here hx rfl (hb hby own_d_prog_7_method_9_code_43) rfl k) ?_
  show own_Gl _ _ _ _ _ _ _ (s₁.setTop (mkF m 44 #[.val (.ref t), .val (.int (0 : Int32)), .val (.int (2 : Int32)), .val (.int ((((((((-1640531527 : Int32) ^^^ xx) * (16777619 : Int32)) ^^^ (((((-1640531527 : Int32) ^^^ xx) * (16777619 : Int32)).toUInt32 >>> ((15 : Int32) &&& 31).toUInt32).toInt32)) ^^^ yy) * (16777619 : Int32)) ^^^ ((((((((-1640531527 : Int32) ^^^ xx) * (16777619 : Int32)) ^^^ (((((-1640531527 : Int32) ^^^ xx) * (16777619 : Int32)).toUInt32 >>> ((15 : Int32) &&& 31).toUInt32).toInt32)) ^^^ yy) * (16777619 : Int32)).toUInt32 >>> ((15 : Int32) &&& 31).toUInt32).toInt32)) * (-2048144789 : Int32))), .val (.int (2 : Int32))] [(.int ((((((((-1640531527 : Int32) ^^^ xx) * (16777619 : Int32)) ^^^ (((((-1640531527 : Int32) ^^^ xx) * (16777619 : Int32)).toUInt32 >>> ((15 : Int32) &&& 31).toUInt32).toInt32)) ^^^ yy) * (16777619 : Int32)) ^^^ ((((((((-1640531527 : Int32) ^^^ xx) * (16777619 : Int32)) ^^^ (((((-1640531527 : Int32) ^^^ xx) * (16777619 : Int32)).toUInt32 >>> ((15 : Int32) &&& 31).toUInt32).toInt32)) ^^^ yy) * (16777619 : Int32)).toUInt32 >>> ((15 : Int32) &&& 31).toUInt32).toInt32)) * (-2048144789 : Int32))), (.int ((((((((-1640531527 : Int32) ^^^ xx) * (16777619 : Int32)) ^^^ (((((-1640531527 : Int32) ^^^ xx) * (16777619 : Int32)).toUInt32 >>> ((15 : Int32) &&& 31).toUInt32).toInt32)) ^^^ yy) * (16777619 : Int32)) ^^^ ((((((((-1640531527 : Int32) ^^^ xx) * (16777619 : Int32)) ^^^ (((((-1640531527 : Int32) ^^^ xx) * (16777619 : Int32)).toUInt32 >>> ((15 : Int32) &&& 31).toUInt32).toInt32)) ^^^ yy) * (16777619 : Int32)).toUInt32 >>> ((15 : Int32) &&& 31).toUInt32).toInt32)) * (-2048144789 : Int32)))]))
  refine own_st (fun _ k => XS.bipush X0.here hx rfl (hb hby own_d_prog_7_method_9_code_44) k) ?_
  show own_Gl _ _ _ _ _ _ _ (s₁.setTop (mkF m 46 #[.val (.ref t), .val (.int (0 : Int32)), .val (.int (2 : Int32)), .val (.int ((((((((-1640531527 : Int32) ^^^ xx) * (16777619 : Int32)) ^^^ (((((-1640531527 : Int32) ^^^ xx) * (16777619 : Int32)).toUInt32 >>> ((15 : Int32) &&& 31).toUInt32).toInt32)) ^^^ yy) * (16777619 : Int32)) ^^^ ((((((((-1640531527 : Int32) ^^^ xx) * (16777619 : Int32)) ^^^ (((((-1640531527 : Int32) ^^^ xx) * (16777619 : Int32)).toUInt32 >>> ((15 : Int32) &&& 31).toUInt32).toInt32)) ^^^ yy) * (16777619 : Int32)).toUInt32 >>> ((15 : Int32) &&& 31).toUInt32).toInt32)) * (-2048144789 : Int32))), .val (.int (2 : Int32))] [(.int (13 : Int32)), (.int ((((((((-1640531527 : Int32) ^^^ xx) * (16777619 : Int32)) ^^^ (((((-1640531527 : Int32) ^^^ xx) * (16777619 : Int32)).toUInt32 >>> ((15 : Int32) &&& 31).toUInt32).toInt32)) ^^^ yy) * (16777619 : Int32)) ^^^ ((((((((-1640531527 : Int32) ^^^ xx) * (16777619 : Int32)) ^^^ (((((-1640531527 : Int32) ^^^ xx) * (16777619 : Int32)).toUInt32 >>> ((15 : Int32) &&& 31).toUInt32).toInt32)) ^^^ yy) * (16777619 : Int32)).toUInt32 >>> ((15 : Int32) &&& 31).toUInt32).toInt32)) * (-2048144789 : Int32))), (.int ((((((((-1640531527 : Int32) ^^^ xx) * (16777619 : Int32)) ^^^ (((((-1640531527 : Int32) ^^^ xx) * (16777619 : Int32)).toUInt32 >>> ((15 : Int32) &&& 31).toUInt32).toInt32)) ^^^ yy) * (16777619 : Int32)) ^^^ ((((((((-1640531527 : Int32) ^^^ xx) * (16777619 : Int32)) ^^^ (((((-1640531527 : Int32) ^^^ xx) * (16777619 : Int32)).toUInt32 >>> ((15 : Int32) &&& 31).toUInt32).toInt32)) ^^^ yy) * (16777619 : Int32)).toUInt32 >>> ((15 : Int32) &&& 31).toUInt32).toInt32)) * (-2048144789 : Int32)))]))
  refine own_st (fun _ k => XS.iushr X0.here hx rfl (hb hby own_d_prog_7_method_9_code_46) rfl k) ?_
  show own_Gl _ _ _ _ _ _ _ (s₁.setTop (mkF m 47 #[.val (.ref t), .val (.int (0 : Int32)), .val (.int (2 : Int32)), .val (.int ((((((((-1640531527 : Int32) ^^^ xx) * (16777619 : Int32)) ^^^ (((((-1640531527 : Int32) ^^^ xx) * (16777619 : Int32)).toUInt32 >>> ((15 : Int32) &&& 31).toUInt32).toInt32)) ^^^ yy) * (16777619 : Int32)) ^^^ ((((((((-1640531527 : Int32) ^^^ xx) * (16777619 : Int32)) ^^^ (((((-1640531527 : Int32) ^^^ xx) * (16777619 : Int32)).toUInt32 >>> ((15 : Int32) &&& 31).toUInt32).toInt32)) ^^^ yy) * (16777619 : Int32)).toUInt32 >>> ((15 : Int32) &&& 31).toUInt32).toInt32)) * (-2048144789 : Int32))), .val (.int (2 : Int32))] [(.int ((((((((((-1640531527 : Int32) ^^^ xx) * (16777619 : Int32)) ^^^ (((((-1640531527 : Int32) ^^^ xx) * (16777619 : Int32)).toUInt32 >>> ((15 : Int32) &&& 31).toUInt32).toInt32)) ^^^ yy) * (16777619 : Int32)) ^^^ ((((((((-1640531527 : Int32) ^^^ xx) * (16777619 : Int32)) ^^^ (((((-1640531527 : Int32) ^^^ xx) * (16777619 : Int32)).toUInt32 >>> ((15 : Int32) &&& 31).toUInt32).toInt32)) ^^^ yy) * (16777619 : Int32)).toUInt32 >>> ((15 : Int32) &&& 31).toUInt32).toInt32)) * (-2048144789 : Int32)).toUInt32 >>> ((13 : Int32) &&& 31).toUInt32).toInt32)), (.int ((((((((-1640531527 : Int32) ^^^ xx) * (16777619 : Int32)) ^^^ (((((-1640531527 : Int32) ^^^ xx) * (16777619 : Int32)).toUInt32 >>> ((15 : Int32) &&& 31).toUInt32).toInt32)) ^^^ yy) * (16777619 : Int32)) ^^^ ((((((((-1640531527 : Int32) ^^^ xx) * (16777619 : Int32)) ^^^ (((((-1640531527 : Int32) ^^^ xx) * (16777619 : Int32)).toUInt32 >>> ((15 : Int32) &&& 31).toUInt32).toInt32)) ^^^ yy) * (16777619 : Int32)).toUInt32 >>> ((15 : Int32) &&& 31).toUInt32).toInt32)) * (-2048144789 : Int32)))]))
  refine own_st (fun _ k => XS.ixor X0.here hx rfl (hb hby own_d_prog_7_method_9_code_47) rfl k) ?_
  show own_Gl _ _ _ _ _ _ _ (s₁.setTop (mkF m 48 #[.val (.ref t), .val (.int (0 : Int32)), .val (.int (2 : Int32)), .val (.int ((((((((-1640531527 : Int32) ^^^ xx) * (16777619 : Int32)) ^^^ (((((-1640531527 : Int32) ^^^ xx) * (16777619 : Int32)).toUInt32 >>> ((15 : Int32) &&& 31).toUInt32).toInt32)) ^^^ yy) * (16777619 : Int32)) ^^^ ((((((((-1640531527 : Int32) ^^^ xx) * (16777619 : Int32)) ^^^ (((((-1640531527 : Int32) ^^^ xx) * (16777619 : Int32)).toUInt32 >>> ((15 : Int32) &&& 31).toUInt32).toInt32)) ^^^ yy) * (16777619 : Int32)).toUInt32 >>> ((15 : Int32) &&& 31).toUInt32).toInt32)) * (-2048144789 : Int32))), .val (.int (2 : Int32))] [(.int (((((((((-1640531527 : Int32) ^^^ xx) * (16777619 : Int32)) ^^^ (((((-1640531527 : Int32) ^^^ xx) * (16777619 : Int32)).toUInt32 >>> ((15 : Int32) &&& 31).toUInt32).toInt32)) ^^^ yy) * (16777619 : Int32)) ^^^ ((((((((-1640531527 : Int32) ^^^ xx) * (16777619 : Int32)) ^^^ (((((-1640531527 : Int32) ^^^ xx) * (16777619 : Int32)).toUInt32 >>> ((15 : Int32) &&& 31).toUInt32).toInt32)) ^^^ yy) * (16777619 : Int32)).toUInt32 >>> ((15 : Int32) &&& 31).toUInt32).toInt32)) * (-2048144789 : Int32)) ^^^ ((((((((((-1640531527 : Int32) ^^^ xx) * (16777619 : Int32)) ^^^ (((((-1640531527 : Int32) ^^^ xx) * (16777619 : Int32)).toUInt32 >>> ((15 : Int32) &&& 31).toUInt32).toInt32)) ^^^ yy) * (16777619 : Int32)) ^^^ ((((((((-1640531527 : Int32) ^^^ xx) * (16777619 : Int32)) ^^^ (((((-1640531527 : Int32) ^^^ xx) * (16777619 : Int32)).toUInt32 >>> ((15 : Int32) &&& 31).toUInt32).toInt32)) ^^^ yy) * (16777619 : Int32)).toUInt32 >>> ((15 : Int32) &&& 31).toUInt32).toInt32)) * (-2048144789 : Int32)).toUInt32 >>> ((13 : Int32) &&& 31).toUInt32).toInt32)))]))
  exact own_retI X0 hx hlk hret (hb hby own_d_prog_7_method_9_code_48) e0 ⟨rfl, N0, rfl⟩ (by decide) (by decide)
theorem own_d_prog_7_method_7_code_0 : decode prog_7_method_7_code 0 = .ok (.iload_n 1, 1) := by decide +kernel
theorem own_d_prog_7_method_7_code_1 : decode prog_7_method_7_code 1 = .ok (.aload_n 0, 1) := by decide +kernel
theorem own_d_prog_7_method_7_code_2 : decode prog_7_method_7_code 2 = .ok (.getfield 20, 3) := by decide +kernel
theorem own_d_prog_7_method_7_code_5 : decode prog_7_method_7_code 5 = .ok (.imul, 1) := by decide +kernel
theorem own_d_prog_7_method_7_code_6 : decode prog_7_method_7_code 6 = .ok (.istore_n 3, 1) := by decide +kernel
theorem own_d_prog_7_method_7_code_7 : decode prog_7_method_7_code 7 = .ok (.iconst 0, 1) := by decide +kernel
theorem own_d_prog_7_method_7_code_8 : decode prog_7_method_7_code 8 = .ok (.istore 4, 2) := by decide +kernel
theorem own_d_prog_7_method_7_code_10 : decode prog_7_method_7_code 10 = .ok (.iload 4, 2) := by decide +kernel
theorem own_d_prog_7_method_7_code_12 : decode prog_7_method_7_code 12 = .ok (.aload_n 0, 1) := by decide +kernel
theorem own_d_prog_7_method_7_code_13 : decode prog_7_method_7_code 13 = .ok (.getfield 20, 3) := by decide +kernel
theorem own_d_prog_7_method_7_code_16 : decode prog_7_method_7_code 16 = .ok (.if_icmp .ge 27, 3) := by decide +kernel
theorem own_d_prog_7_method_7_code_19 : decode prog_7_method_7_code 19 = .ok (.aload_n 0, 1) := by decide +kernel
theorem own_d_prog_7_method_7_code_20 : decode prog_7_method_7_code 20 = .ok (.getfield 30, 3) := by decide +kernel
theorem own_d_prog_7_method_7_code_23 : decode prog_7_method_7_code 23 = .ok (.iload_n 3, 1) := by decide +kernel
theorem own_d_prog_7_method_7_code_24 : decode prog_7_method_7_code 24 = .ok (.iload 4, 2) := by decide +kernel
theorem own_d_prog_7_method_7_code_26 : decode prog_7_method_7_code 26 = .ok (.iadd, 1) := by decide +kernel
theorem own_d_prog_7_method_7_code_27 : decode prog_7_method_7_code 27 = .ok (.iaload, 1) := by decide +kernel
theorem own_d_prog_7_method_7_code_28 : decode prog_7_method_7_code 28 = .ok (.aload_n 2, 1) := by decide +kernel
theorem own_d_prog_7_method_7_code_29 : decode prog_7_method_7_code 29 = .ok (.iload 4, 2) := by decide +kernel
theorem own_d_prog_7_method_7_code_31 : decode prog_7_method_7_code 31 = .ok (.iaload, 1) := by decide +kernel
theorem own_d_prog_7_method_7_code_32 : decode prog_7_method_7_code 32 = .ok (.if_icmp .eq 5, 3) := by decide +kernel
theorem own_d_prog_7_method_7_code_37 : decode prog_7_method_7_code 37 = .ok (.iinc 4 1, 3) := by decide +kernel
theorem own_d_prog_7_method_7_code_40 : decode prog_7_method_7_code 40 = .ok (.goto (-30), 3) := by decide +kernel
theorem own_d_prog_7_method_7_code_43 : decode prog_7_method_7_code 43 = .ok (.iconst 1, 1) := by decide +kernel
theorem own_d_prog_7_method_7_code_44 : decode prog_7_method_7_code 44 = .ok (.ireturn, 1) := by decide +kernel
theorem own_d_prog_7_method_7_code_35 : decode prog_7_method_7_code 35 = .ok (.iconst 0, 1) := by decide +kernel
theorem own_d_prog_7_method_7_code_36 : decode prog_7_method_7_code 36 = .ok (.ireturn, 1) := by decide +kernel
theorem own_ef_own_rreq (m : MethodId) (x0 : Addr) (x1 : Int32) (x2 : Addr) : entryFrame m #[(.ref x0), (.int x1), (.ref x2)] 5 = mkF m 0 #[.val (.ref x0), .val (.int x1), .val (.ref x2), .unset, .unset] [] := by first | (simp [entryFrame, mkF, argsToLocals, Value.category]; done) | rfl
def own_Q_own_rreq (Z : State) (a : Addr) (pr : Int32) (t : Addr) (vb : Addr) (kv : ClassId) (kt : ClassId) (vf : Nat → Int32) (xx : Int32) (yy : Int32) (h0 : Heap) (n0 : Nat) (v : Option Value) (h : Heap) (L : List Loc) : Prop := (v = some (.int (own_req vf pr.toNatClampNeg xx yy))) ∧ (Fr n0 L) ∧ (h = h0)
set_option maxRecDepth 65536 in
set_option maxHeartbeats 40000000 in
theorem own_rreq (l : Launch) (Z : State) (a0 : Array Value) (hw : ∀ d ∈ tables_1, d.before a0 Z = true) (ws : List Jvm.Cond) (a : Addr) (pr : Int32) (t : Addr) (vb : Addr) (kv : ClassId) (kt : ClassId) (vf : Nat → Int32) (xx : Int32) (yy : Int32) (h0 : Heap) (n0 : Nat) (Z0 : n0 ≤ h0.size) (F_a_arity : Fld Z h0 a "com/example/lehti/lehti/eval/Relation" "arity" "I" (.int (2 : Int32))) (F_a_values : Fld Z h0 a "com/example/lehti/lehti/eval/Relation" "values" "[I" (.ref vb)) (V_vb : Arv Z h0 vb kv .int (32 : Int32) (own_fl 32 vf) (.int (0 : Int32))) (V_t : Arv Z h0 t kt .int (2 : Int32) [(.int xx), (.int yy)] (.int (0 : Int32))) (hr : ¬ pr < 0 ∧ pr < (16 : Int32)) :
    MetFree l (⟨"com/example/lehti/lehti/eval/Relation", "rowEquals", "(I[I)Z"⟩ : MethodName) (head1 (Jvm.Cond.code (⟨"com/example/lehti/lehti/eval/Relation", "rowEquals", "(I[I)Z"⟩ : MethodName) prog_7_method_7_code 5 (some .boolean) :: ws) ({ frames := 0, cells := 0, slots := 0, locals := 0 } : Room)) (fun xa xU => xa = #[(.ref a), (.int pr), (.ref t)] ∧ Z.Warmed39 xU.vm ∧ xU.heap = h0) (fun _ _ _ _ _ => True) (fun _ xU xo xV => ∃ v L, xo = .returned v ∧ own_Q_own_rreq Z a pr t vb kv kt vf xx yy h0 n0 v xV.heap L ∧ FrameEnd xU xo xV L ({ frames := 0, cells := 0, slots := 0, locals := 0 } : Room).cells ({ frames := 0, cells := 0, slots := 0, locals := 0 } : Room).slots) := by
  refine MetFree.of_bodySF (plainFor_of_name own_pn798614349) hisR ?_
  intro p e s m args below meth c s₁ Bd hml0 hP hK
  obtain ⟨rfl, hZ, hh⟩ := hP
  have hx := Bd.exec
  have hby := Bd.bytes
  have hlk := Bd.notSynchronized
  have hret := Bd.returns
  have hml : c.maxLocals = 5 := hml0
  have hown : s.vm.findClass "com/example/lehti/lehti/eval/Relation" = some m.cls := findClass_of_methodNamed Bd.named
  have hnm := (name_of_methodNamed Bd.named Bd.method).1
  have X0 : Stand p l e ({ frames := 0, cells := 0, slots := 0, locals := 0 } : Room) s m #[(.ref a), (.int pr), (.ref t)] below meth c s₁ [] 0 0 := Stand.of_body Bd
  have e0 : s₁.heap = h0 := by rw [← hh, Bd.state]; rfl
  have N0 := Fr.nil n0
  show own_Gl p e below s (own_Q_own_rreq Z a pr t vb kv kt vf xx yy h0 n0) ({ frames := 0, cells := 0, slots := 0, locals := 0 } : Room).cells ({ frames := 0, cells := 0, slots := 0, locals := 0 } : Room).slots _
  refine own_cast (own_ef_own_rreq m a pr t) ?_
  show own_Gl _ _ _ _ _ _ _ (s₁.setTop (mkF m 0 #[.val (.ref a), .val (.int pr), .val (.ref t), .unset, .unset] []))
  refine own_st (fun _ k => XS.iloadN X0.here hx rfl (hb hby own_d_prog_7_method_7_code_0) rfl k) ?_
  show own_Gl _ _ _ _ _ _ _ (s₁.setTop (mkF m 1 #[.val (.ref a), .val (.int pr), .val (.ref t), .unset, .unset] [(.int pr)]))
  refine own_st (fun _ k => XS.aloadN X0.here hx rfl (hb hby own_d_prog_7_method_7_code_1) rfl rfl k) ?_
  show own_Gl _ _ _ _ _ _ _ (s₁.setTop (mkF m 2 #[.val (.ref a), .val (.int pr), .val (.ref t), .unset, .unset] [(.ref a), (.int pr)]))
  obtain ⟨T1, X1, e1, st1⟩ := getF X0 hx hZ hown (host := "") (Or.inl (hw _ (List.mem_of_getElem? (i := 30) rfl))) Via.refl e0 F_a_arity (g := (mkF m 2 #[.val (.ref a), .val (.int pr), .val (.ref t), .unset, .unset] [(.ref a), (.int pr)])) rfl rfl (hb hby own_d_prog_7_method_7_code_2)
  refine own_st st1 ?_
  show own_Gl _ _ _ _ _ _ _ (T1.setTop (mkF m 5 #[.val (.ref a), .val (.int pr), .val (.ref t), .unset, .unset] [(.int (2 : Int32)), (.int pr)]))
  refine own_st (fun _ k => XS.imul X1.here hx rfl (hb hby own_d_prog_7_method_7_code_5) rfl k) ?_
  show own_Gl _ _ _ _ _ _ _ (T1.setTop (mkF m 6 #[.val (.ref a), .val (.int pr), .val (.ref t), .unset, .unset] [(.int (pr * (2 : Int32)))]))
  refine own_st (fun _ k => XS.istoreN X1.here hx rfl (hb hby own_d_prog_7_method_7_code_6) rfl (l' := #[.val (.ref a), .val (.int pr), .val (.ref t), .val (.int (pr * (2 : Int32))), .unset]) rfl k) ?_
  show own_Gl _ _ _ _ _ _ _ (T1.setTop (mkF m 7 #[.val (.ref a), .val (.int pr), .val (.ref t), .val (.int (pr * (2 : Int32))), .unset] []))
  refine own_st (fun _ k => XS.iconst X1.here hx rfl (hb hby own_d_prog_7_method_7_code_7) k) ?_
  show own_Gl _ _ _ _ _ _ _ (T1.setTop (mkF m 8 #[.val (.ref a), .val (.int pr), .val (.ref t), .val (.int (pr * (2 : Int32))), .unset] [(.int (0 : Int32))]))
  refine own_st (fun _ k => XS.istore X1.here hx rfl (hb hby own_d_prog_7_method_7_code_8) rfl (l' := #[.val (.ref a), .val (.int pr), .val (.ref t), .val (.int (pr * (2 : Int32))), .val (.int (0 : Int32))]) rfl k) ?_
  show own_Gl _ _ _ _ _ _ _ (T1.setTop (mkF m 10 #[.val (.ref a), .val (.int pr), .val (.ref t), .val (.int (pr * (2 : Int32))), .val (.int (0 : Int32))] []))
  refine own_st (fun _ k => XS.iload X1.here hx rfl (hb hby own_d_prog_7_method_7_code_10) rfl k) ?_
  show own_Gl _ _ _ _ _ _ _ (T1.setTop (mkF m 12 #[.val (.ref a), .val (.int pr), .val (.ref t), .val (.int (pr * (2 : Int32))), .val (.int (0 : Int32))] [(.int (0 : Int32))]))
  refine own_st (fun _ k => XS.aloadN X1.here hx rfl (hb hby own_d_prog_7_method_7_code_12) rfl rfl k) ?_
  show own_Gl _ _ _ _ _ _ _ (T1.setTop (mkF m 13 #[.val (.ref a), .val (.int pr), .val (.ref t), .val (.int (pr * (2 : Int32))), .val (.int (0 : Int32))] [(.ref a), (.int (0 : Int32))]))
  obtain ⟨T2, X2, e2, st2⟩ := getF X1 hx hZ hown (host := "") (Or.inl (hw _ (List.mem_of_getElem? (i := 30) rfl))) Via.refl e1 F_a_arity (g := (mkF m 13 #[.val (.ref a), .val (.int pr), .val (.ref t), .val (.int (pr * (2 : Int32))), .val (.int (0 : Int32))] [(.ref a), (.int (0 : Int32))])) rfl rfl (hb hby own_d_prog_7_method_7_code_13)
  refine own_st st2 ?_
  show own_Gl _ _ _ _ _ _ _ (T2.setTop (mkF m 16 #[.val (.ref a), .val (.int pr), .val (.ref t), .val (.int (pr * (2 : Int32))), .val (.int (0 : Int32))] [(.int (2 : Int32)), (.int (0 : Int32))]))
  have hd3 : (0 : Int32) < (2 : Int32) := (by decide)
  refine own_st (fun _ k => XS.icmpNo X2.here hx rfl (hb hby own_d_prog_7_method_7_code_16) rfl (tlt hd3).2.1 k) ?_
  show own_Gl _ _ _ _ _ _ _ (T2.setTop (mkF m 19 #[.val (.ref a), .val (.int pr), .val (.ref t), .val (.int (pr * (2 : Int32))), .val (.int (0 : Int32))] []))
  refine own_st (fun _ k => XS.aloadN X2.here hx rfl (hb hby own_d_prog_7_method_7_code_19) rfl rfl k) ?_
  show own_Gl _ _ _ _ _ _ _ (T2.setTop (mkF m 20 #[.val (.ref a), .val (.int pr), .val (.ref t), .val (.int (pr * (2 : Int32))), .val (.int (0 : Int32))] [(.ref a)]))
  obtain ⟨T4, X4, e4, st4⟩ := getF X2 hx hZ hown (host := "") (Or.inl (hw _ (List.mem_of_getElem? (i := 36) rfl))) Via.refl e2 F_a_values (g := (mkF m 20 #[.val (.ref a), .val (.int pr), .val (.ref t), .val (.int (pr * (2 : Int32))), .val (.int (0 : Int32))] [(.ref a)])) rfl rfl (hb hby own_d_prog_7_method_7_code_20)
  refine own_st st4 ?_
  show own_Gl _ _ _ _ _ _ _ (T4.setTop (mkF m 23 #[.val (.ref a), .val (.int pr), .val (.ref t), .val (.int (pr * (2 : Int32))), .val (.int (0 : Int32))] [(.ref vb)]))
  refine own_st (fun _ k => XS.iloadN X4.here hx rfl (hb hby own_d_prog_7_method_7_code_23) rfl k) ?_
  show own_Gl _ _ _ _ _ _ _ (T4.setTop (mkF m 24 #[.val (.ref a), .val (.int pr), .val (.ref t), .val (.int (pr * (2 : Int32))), .val (.int (0 : Int32))] [(.int (pr * (2 : Int32))), (.ref vb)]))
  refine own_st (fun _ k => XS.iload X4.here hx rfl (hb hby own_d_prog_7_method_7_code_24) rfl k) ?_
  show own_Gl _ _ _ _ _ _ _ (T4.setTop (mkF m 26 #[.val (.ref a), .val (.int pr), .val (.ref t), .val (.int (pr * (2 : Int32))), .val (.int (0 : Int32))] [(.int (0 : Int32)), (.int (pr * (2 : Int32))), (.ref vb)]))
  refine own_st (fun _ k => XS.iadd X4.here hx rfl (hb hby own_d_prog_7_method_7_code_26) rfl k) ?_
  show own_Gl _ _ _ _ _ _ _ (T4.setTop (mkF m 27 #[.val (.ref a), .val (.int pr), .val (.ref t), .val (.int (pr * (2 : Int32))), .val (.int (0 : Int32))] [(.int ((pr * (2 : Int32)) + (0 : Int32))), (.ref vb)]))
  obtain ⟨cl5, Ar5, qq5, Ss5, Nn5, Hh5, Gg5⟩ := id V_vb
  have hin5 : ¬ (((pr * (2 : Int32)) + (0 : Int32)) < 0 ∨ cl5.slots.size ≤ (((pr * (2 : Int32)) + (0 : Int32))).toNatClampNeg) := inb_of Ss5 (own_ix pr (0 : Int32) hr (by decide)).1
  have hat5 : cl5.slots[(((pr * (2 : Int32)) + (0 : Int32))).toNatClampNeg]? = some (.int (vf (2 * pr.toNatClampNeg))) := Hh5.at hin5 (own_atx vf pr (0 : Int32) hr (by decide) _)
  refine own_st (X4.iaload hx (j := ((pr * (2 : Int32)) + (0 : Int32))) (v := (.int (vf (2 * pr.toNatClampNeg)))) (by rw [e4]; exact Ar5.1) (State.isArrayOf_alike hZ.alike Ar5.2.1) Ar5.2.2 hin5 hat5 (g := (mkF m 27 #[.val (.ref a), .val (.int pr), .val (.ref t), .val (.int (pr * (2 : Int32))), .val (.int (0 : Int32))] [(.int ((pr * (2 : Int32)) + (0 : Int32))), (.ref vb)])) rfl rfl (hb hby own_d_prog_7_method_7_code_27)) ?_
  show own_Gl _ _ _ _ _ _ _ (T4.setTop (mkF m 28 #[.val (.ref a), .val (.int pr), .val (.ref t), .val (.int (pr * (2 : Int32))), .val (.int (0 : Int32))] [(.int (vf (2 * pr.toNatClampNeg)))]))
  refine own_st (fun _ k => XS.aloadN X4.here hx rfl (hb hby own_d_prog_7_method_7_code_28) rfl rfl k) ?_
  show own_Gl _ _ _ _ _ _ _ (T4.setTop (mkF m 29 #[.val (.ref a), .val (.int pr), .val (.ref t), .val (.int (pr * (2 : Int32))), .val (.int (0 : Int32))] [(.ref t), (.int (vf (2 * pr.toNatClampNeg)))]))
  refine own_st (fun _ k => XS.iload X4.here hx rfl (hb hby own_d_prog_7_method_7_code_29) rfl k) ?_
  show own_Gl _ _ _ _ _ _ _ (T4.setTop (mkF m 31 #[.val (.ref a), .val (.int pr), .val (.ref t), .val (.int (pr * (2 : Int32))), .val (.int (0 : Int32))] [(.int (0 : Int32)), (.ref t), (.int (vf (2 * pr.toNatClampNeg)))]))
  obtain ⟨cl6, Ar6, qq6, Ss6, Nn6, Hh6, Gg6⟩ := id V_t
  have hin6 : ¬ ((0 : Int32) < 0 ∨ cl6.slots.size ≤ ((0 : Int32)).toNatClampNeg) := inb_of Ss6 ⟨by decide, by decide⟩
  have hat6 : cl6.slots[((0 : Int32)).toNatClampNeg]? = some (.int xx) := Hh6.at hin6 (rfl)
  refine own_st (X4.iaload hx (j := (0 : Int32)) (v := (.int xx)) (by rw [e4]; exact Ar6.1) (State.isArrayOf_alike hZ.alike Ar6.2.1) Ar6.2.2 hin6 hat6 (g := (mkF m 31 #[.val (.ref a), .val (.int pr), .val (.ref t), .val (.int (pr * (2 : Int32))), .val (.int (0 : Int32))] [(.int (0 : Int32)), (.ref t), (.int (vf (2 * pr.toNatClampNeg)))])) rfl rfl (hb hby own_d_prog_7_method_7_code_31)) ?_
  show own_Gl _ _ _ _ _ _ _ (T4.setTop (mkF m 32 #[.val (.ref a), .val (.int pr), .val (.ref t), .val (.int (pr * (2 : Int32))), .val (.int (0 : Int32))] [(.int xx), (.int (vf (2 * pr.toNatClampNeg)))]))
  by_cases hc32 : (vf (2 * pr.toNatClampNeg)) = xx
  · refine own_st (fun _ k => XS.icmpYes X4.here hx rfl (pc0 := 32) (pc' := 37) rfl (hb hby own_d_prog_7_method_7_code_32) rfl (teq hc32).1 (by decide) (by decide) k) ?_
    show own_Gl _ _ _ _ _ _ _ (T4.setTop (mkF m 37 #[.val (.ref a), .val (.int pr), .val (.ref t), .val (.int (pr * (2 : Int32))), .val (.int (0 : Int32))] []))
    refine own_st (fun _ k => XS.iinc X4.here hx rfl (hb hby own_d_prog_7_method_7_code_37) rfl (l' := #[.val (.ref a), .val (.int pr), .val (.ref t), .val (.int (pr * (2 : Int32))), .val (.int (1 : Int32))]) rfl k) ?_
    show own_Gl _ _ _ _ _ _ _ (T4.setTop (mkF m 40 #[.val (.ref a), .val (.int pr), .val (.ref t), .val (.int (pr * (2 : Int32))), .val (.int (1 : Int32))] []))
    refine own_st (fun _ k => XS.goto X4.here hx rfl (pc0 := 40) (pc' := 10) rfl (hb hby own_d_prog_7_method_7_code_40) (by decide) (by decide) k) ?_
    show own_Gl _ _ _ _ _ _ _ (T4.setTop (mkF m 10 #[.val (.ref a), .val (.int pr), .val (.ref t), .val (.int (pr * (2 : Int32))), .val (.int (1 : Int32))] []))
    refine own_st (fun _ k => XS.iload X4.here hx rfl (hb hby own_d_prog_7_method_7_code_10) rfl k) ?_
    show own_Gl _ _ _ _ _ _ _ (T4.setTop (mkF m 12 #[.val (.ref a), .val (.int pr), .val (.ref t), .val (.int (pr * (2 : Int32))), .val (.int (1 : Int32))] [(.int (1 : Int32))]))
    refine own_st (fun _ k => XS.aloadN X4.here hx rfl (hb hby own_d_prog_7_method_7_code_12) rfl rfl k) ?_
    show own_Gl _ _ _ _ _ _ _ (T4.setTop (mkF m 13 #[.val (.ref a), .val (.int pr), .val (.ref t), .val (.int (pr * (2 : Int32))), .val (.int (1 : Int32))] [(.ref a), (.int (1 : Int32))]))
    obtain ⟨T7, X7, e7, st7⟩ := getF X4 hx hZ hown (host := "") (Or.inl (hw _ (List.mem_of_getElem? (i := 30) rfl))) Via.refl e4 F_a_arity (g := (mkF m 13 #[.val (.ref a), .val (.int pr), .val (.ref t), .val (.int (pr * (2 : Int32))), .val (.int (1 : Int32))] [(.ref a), (.int (1 : Int32))])) rfl rfl (hb hby own_d_prog_7_method_7_code_13)
    refine own_st st7 ?_
    show own_Gl _ _ _ _ _ _ _ (T7.setTop (mkF m 16 #[.val (.ref a), .val (.int pr), .val (.ref t), .val (.int (pr * (2 : Int32))), .val (.int (1 : Int32))] [(.int (2 : Int32)), (.int (1 : Int32))]))
    have hd8 : (1 : Int32) < (2 : Int32) := (by decide)
    refine own_st (fun _ k => XS.icmpNo X7.here hx rfl (hb hby own_d_prog_7_method_7_code_16) rfl (tlt hd8).2.1 k) ?_
    show own_Gl _ _ _ _ _ _ _ (T7.setTop (mkF m 19 #[.val (.ref a), .val (.int pr), .val (.ref t), .val (.int (pr * (2 : Int32))), .val (.int (1 : Int32))] []))
    refine own_st (fun _ k => XS.aloadN X7.here hx rfl (hb hby own_d_prog_7_method_7_code_19) rfl rfl k) ?_
    show own_Gl _ _ _ _ _ _ _ (T7.setTop (mkF m 20 #[.val (.ref a), .val (.int pr), .val (.ref t), .val (.int (pr * (2 : Int32))), .val (.int (1 : Int32))] [(.ref a)]))
    obtain ⟨T9, X9, e9, st9⟩ := getF X7 hx hZ hown (host := "") (Or.inl (hw _ (List.mem_of_getElem? (i := 36) rfl))) Via.refl e7 F_a_values (g := (mkF m 20 #[.val (.ref a), .val (.int pr), .val (.ref t), .val (.int (pr * (2 : Int32))), .val (.int (1 : Int32))] [(.ref a)])) rfl rfl (hb hby own_d_prog_7_method_7_code_20)
    refine own_st st9 ?_
    show own_Gl _ _ _ _ _ _ _ (T9.setTop (mkF m 23 #[.val (.ref a), .val (.int pr), .val (.ref t), .val (.int (pr * (2 : Int32))), .val (.int (1 : Int32))] [(.ref vb)]))
    refine own_st (fun _ k => XS.iloadN X9.here hx rfl (hb hby own_d_prog_7_method_7_code_23) rfl k) ?_
    show own_Gl _ _ _ _ _ _ _ (T9.setTop (mkF m 24 #[.val (.ref a), .val (.int pr), .val (.ref t), .val (.int (pr * (2 : Int32))), .val (.int (1 : Int32))] [(.int (pr * (2 : Int32))), (.ref vb)]))
    refine own_st (fun _ k => XS.iload X9.here hx rfl (hb hby own_d_prog_7_method_7_code_24) rfl k) ?_
    show own_Gl _ _ _ _ _ _ _ (T9.setTop (mkF m 26 #[.val (.ref a), .val (.int pr), .val (.ref t), .val (.int (pr * (2 : Int32))), .val (.int (1 : Int32))] [(.int (1 : Int32)), (.int (pr * (2 : Int32))), (.ref vb)]))
    refine own_st (fun _ k => XS.iadd X9.here hx rfl (hb hby own_d_prog_7_method_7_code_26) rfl k) ?_
    show own_Gl _ _ _ _ _ _ _ (T9.setTop (mkF m 27 #[.val (.ref a), .val (.int pr), .val (.ref t), .val (.int (pr * (2 : Int32))), .val (.int (1 : Int32))] [(.int ((pr * (2 : Int32)) + (1 : Int32))), (.ref vb)]))
    obtain ⟨cl10, Ar10, qq10, Ss10, Nn10, Hh10, Gg10⟩ := id V_vb
    have hin10 : ¬ (((pr * (2 : Int32)) + (1 : Int32)) < 0 ∨ cl10.slots.size ≤ (((pr * (2 : Int32)) + (1 : Int32))).toNatClampNeg) := inb_of Ss10 (own_ix pr (1 : Int32) hr (by decide)).1
    have hat10 : cl10.slots[(((pr * (2 : Int32)) + (1 : Int32))).toNatClampNeg]? = some (.int (vf (2 * pr.toNatClampNeg + 1))) := Hh10.at hin10 (own_atx vf pr (1 : Int32) hr (by decide) _)
    refine own_st (X9.iaload hx (j := ((pr * (2 : Int32)) + (1 : Int32))) (v := (.int (vf (2 * pr.toNatClampNeg + 1)))) (by rw [e9]; exact Ar10.1) (State.isArrayOf_alike hZ.alike Ar10.2.1) Ar10.2.2 hin10 hat10 (g := (mkF m 27 #[.val (.ref a), .val (.int pr), .val (.ref t), .val (.int (pr * (2 : Int32))), .val (.int (1 : Int32))] [(.int ((pr * (2 : Int32)) + (1 : Int32))), (.ref vb)])) rfl rfl (hb hby own_d_prog_7_method_7_code_27)) ?_
    show own_Gl _ _ _ _ _ _ _ (T9.setTop (mkF m 28 #[.val (.ref a), .val (.int pr), .val (.ref t), .val (.int (pr * (2 : Int32))), .val (.int (1 : Int32))] [(.int (vf (2 * pr.toNatClampNeg + 1)))]))
    refine own_st (fun _ k => XS.aloadN X9.here hx rfl (hb hby own_d_prog_7_method_7_code_28) rfl rfl k) ?_
    show own_Gl _ _ _ _ _ _ _ (T9.setTop (mkF m 29 #[.val (.ref a), .val (.int pr), .val (.ref t), .val (.int (pr * (2 : Int32))), .val (.int (1 : Int32))] [(.ref t), (.int (vf (2 * pr.toNatClampNeg + 1)))]))
    refine own_st (fun _ k => XS.iload X9.here hx rfl (hb hby own_d_prog_7_method_7_code_29) rfl k) ?_
    show own_Gl _ _ _ _ _ _ _ (T9.setTop (mkF m 31 #[.val (.ref a), .val (.int pr), .val (.ref t), .val (.int (pr * (2 : Int32))), .val (.int (1 : Int32))] [(.int (1 : Int32)), (.ref t), (.int (vf (2 * pr.toNatClampNeg + 1)))]))
    obtain ⟨cl11, Ar11, qq11, Ss11, Nn11, Hh11, Gg11⟩ := id V_t
    have hin11 : ¬ ((1 : Int32) < 0 ∨ cl11.slots.size ≤ ((1 : Int32)).toNatClampNeg) := inb_of Ss11 ⟨by decide, by decide⟩
    have hat11 : cl11.slots[((1 : Int32)).toNatClampNeg]? = some (.int yy) := Hh11.at hin11 (rfl)
    refine own_st (X9.iaload hx (j := (1 : Int32)) (v := (.int yy)) (by rw [e9]; exact Ar11.1) (State.isArrayOf_alike hZ.alike Ar11.2.1) Ar11.2.2 hin11 hat11 (g := (mkF m 31 #[.val (.ref a), .val (.int pr), .val (.ref t), .val (.int (pr * (2 : Int32))), .val (.int (1 : Int32))] [(.int (1 : Int32)), (.ref t), (.int (vf (2 * pr.toNatClampNeg + 1)))])) rfl rfl (hb hby own_d_prog_7_method_7_code_31)) ?_
    show own_Gl _ _ _ _ _ _ _ (T9.setTop (mkF m 32 #[.val (.ref a), .val (.int pr), .val (.ref t), .val (.int (pr * (2 : Int32))), .val (.int (1 : Int32))] [(.int yy), (.int (vf (2 * pr.toNatClampNeg + 1)))]))
    by_cases hc32_12 : (vf (2 * pr.toNatClampNeg + 1)) = yy
    · refine own_st (fun _ k => XS.icmpYes X9.here hx rfl (pc0 := 32) (pc' := 37) rfl (hb hby own_d_prog_7_method_7_code_32) rfl (teq hc32_12).1 (by decide) (by decide) k) ?_
      show own_Gl _ _ _ _ _ _ _ (T9.setTop (mkF m 37 #[.val (.ref a), .val (.int pr), .val (.ref t), .val (.int (pr * (2 : Int32))), .val (.int (1 : Int32))] []))
      refine own_st (fun _ k => XS.iinc X9.here hx rfl (hb hby own_d_prog_7_method_7_code_37) rfl (l' := #[.val (.ref a), .val (.int pr), .val (.ref t), .val (.int (pr * (2 : Int32))), .val (.int (2 : Int32))]) rfl k) ?_
      show own_Gl _ _ _ _ _ _ _ (T9.setTop (mkF m 40 #[.val (.ref a), .val (.int pr), .val (.ref t), .val (.int (pr * (2 : Int32))), .val (.int (2 : Int32))] []))
      refine own_st (fun _ k => XS.goto X9.here hx rfl (pc0 := 40) (pc' := 10) rfl (hb hby own_d_prog_7_method_7_code_40) (by decide) (by decide) k) ?_
      show own_Gl _ _ _ _ _ _ _ (T9.setTop (mkF m 10 #[.val (.ref a), .val (.int pr), .val (.ref t), .val (.int (pr * (2 : Int32))), .val (.int (2 : Int32))] []))
      refine own_st (fun _ k => XS.iload X9.here hx rfl (hb hby own_d_prog_7_method_7_code_10) rfl k) ?_
      show own_Gl _ _ _ _ _ _ _ (T9.setTop (mkF m 12 #[.val (.ref a), .val (.int pr), .val (.ref t), .val (.int (pr * (2 : Int32))), .val (.int (2 : Int32))] [(.int (2 : Int32))]))
      refine own_st (fun _ k => XS.aloadN X9.here hx rfl (hb hby own_d_prog_7_method_7_code_12) rfl rfl k) ?_
      show own_Gl _ _ _ _ _ _ _ (T9.setTop (mkF m 13 #[.val (.ref a), .val (.int pr), .val (.ref t), .val (.int (pr * (2 : Int32))), .val (.int (2 : Int32))] [(.ref a), (.int (2 : Int32))]))
      obtain ⟨T13, X13, e13, st13⟩ := getF X9 hx hZ hown (host := "") (Or.inl (hw _ (List.mem_of_getElem? (i := 30) rfl))) Via.refl e9 F_a_arity (g := (mkF m 13 #[.val (.ref a), .val (.int pr), .val (.ref t), .val (.int (pr * (2 : Int32))), .val (.int (2 : Int32))] [(.ref a), (.int (2 : Int32))])) rfl rfl (hb hby own_d_prog_7_method_7_code_13)
      refine own_st st13 ?_
      show own_Gl _ _ _ _ _ _ _ (T13.setTop (mkF m 16 #[.val (.ref a), .val (.int pr), .val (.ref t), .val (.int (pr * (2 : Int32))), .val (.int (2 : Int32))] [(.int (2 : Int32)), (.int (2 : Int32))]))
      have hd14 : ¬ ((2 : Int32) < (2 : Int32)) := (by decide)
      refine own_st (fun _ k => XS.icmpYes X13.here hx rfl (pc0 := 16) (pc' := 43) rfl (hb hby own_d_prog_7_method_7_code_16) rfl (flt hd14).2.1 (by decide) (by decide) k) ?_
      show own_Gl _ _ _ _ _ _ _ (T13.setTop (mkF m 43 #[.val (.ref a), .val (.int pr), .val (.ref t), .val (.int (pr * (2 : Int32))), .val (.int (2 : Int32))] []))
      refine own_st (fun _ k => XS.iconst X13.here hx rfl (hb hby own_d_prog_7_method_7_code_43) k) ?_
      show own_Gl _ _ _ _ _ _ _ (T13.setTop (mkF m 44 #[.val (.ref a), .val (.int pr), .val (.ref t), .val (.int (pr * (2 : Int32))), .val (.int (2 : Int32))] [(.int (1 : Int32))]))
      exact own_retN X13 hx hlk (t := .boolean) hret (by simp) (hb hby own_d_prog_7_method_7_code_44) e13 ⟨by rw [own_req, if_pos hc32, if_pos hc32_12] <;> rfl, N0, rfl⟩ (by decide) (by decide)
    · refine own_st (fun _ k => XS.icmpNo X9.here hx rfl (hb hby own_d_prog_7_method_7_code_32) rfl (feq hc32_12).1 k) ?_
      show own_Gl _ _ _ _ _ _ _ (T9.setTop (mkF m 35 #[.val (.ref a), .val (.int pr), .val (.ref t), .val (.int (pr * (2 : Int32))), .val (.int (1 : Int32))] []))
      refine own_st (fun _ k => XS.iconst X9.here hx rfl (hb hby own_d_prog_7_method_7_code_35) k) ?_
      show own_Gl _ _ _ _ _ _ _ (T9.setTop (mkF m 36 #[.val (.ref a), .val (.int pr), .val (.ref t), .val (.int (pr * (2 : Int32))), .val (.int (1 : Int32))] [(.int (0 : Int32))]))
      exact own_retN X9 hx hlk (t := .boolean) hret (by simp) (hb hby own_d_prog_7_method_7_code_36) e9 ⟨by rw [own_req, if_pos hc32, if_neg hc32_12] <;> rfl, N0, rfl⟩ (by decide) (by decide)
  · refine own_st (fun _ k => XS.icmpNo X4.here hx rfl (hb hby own_d_prog_7_method_7_code_32) rfl (feq hc32).1 k) ?_
    show own_Gl _ _ _ _ _ _ _ (T4.setTop (mkF m 35 #[.val (.ref a), .val (.int pr), .val (.ref t), .val (.int (pr * (2 : Int32))), .val (.int (0 : Int32))] []))
    refine own_st (fun _ k => XS.iconst X4.here hx rfl (hb hby own_d_prog_7_method_7_code_35) k) ?_
    show own_Gl _ _ _ _ _ _ _ (T4.setTop (mkF m 36 #[.val (.ref a), .val (.int pr), .val (.ref t), .val (.int (pr * (2 : Int32))), .val (.int (0 : Int32))] [(.int (0 : Int32))]))
    exact own_retN X4 hx hlk (t := .boolean) hret (by simp) (hb hby own_d_prog_7_method_7_code_36) e4 ⟨by rw [own_req, if_neg hc32] <;> rfl, N0, rfl⟩ (by decide) (by decide)
theorem own_d_prog_7_method_5_code_0 : decode prog_7_method_5_code 0 = .ok (.aload_n 1, 1) := by decide +kernel
theorem own_d_prog_7_method_5_code_1 : decode prog_7_method_5_code 1 = .ok (.arraylength, 1) := by decide +kernel
theorem own_d_prog_7_method_5_code_2 : decode prog_7_method_5_code 2 = .ok (.aload_n 0, 1) := by decide +kernel
theorem own_d_prog_7_method_5_code_3 : decode prog_7_method_5_code 3 = .ok (.getfield 20, 3) := by decide +kernel
theorem own_d_prog_7_method_5_code_6 : decode prog_7_method_5_code 6 = .ok (.if_icmp .eq 22, 3) := by decide +kernel
theorem own_d_prog_7_method_5_code_28 : decode prog_7_method_5_code 28 = .ok (.aload_n 0, 1) := by decide +kernel
theorem own_d_prog_7_method_5_code_29 : decode prog_7_method_5_code 29 = .ok (.getfield 7, 3) := by decide +kernel
theorem own_d_prog_7_method_5_code_32 : decode prog_7_method_5_code 32 = .ok (.arraylength, 1) := by decide +kernel
theorem own_d_prog_7_method_5_code_33 : decode prog_7_method_5_code 33 = .ok (.iconst 1, 1) := by decide +kernel
theorem own_d_prog_7_method_5_code_34 : decode prog_7_method_5_code 34 = .ok (.isub, 1) := by decide +kernel
theorem own_d_prog_7_method_5_code_35 : decode prog_7_method_5_code 35 = .ok (.istore_n 2, 1) := by decide +kernel
theorem own_d_prog_7_method_5_code_36 : decode prog_7_method_5_code 36 = .ok (.aload_n 1, 1) := by decide +kernel
theorem own_d_prog_7_method_5_code_37 : decode prog_7_method_5_code 37 = .ok (.iconst 0, 1) := by decide +kernel
theorem own_d_prog_7_method_5_code_38 : decode prog_7_method_5_code 38 = .ok (.aload_n 0, 1) := by decide +kernel
theorem own_d_prog_7_method_5_code_39 : decode prog_7_method_5_code 39 = .ok (.getfield 20, 3) := by decide +kernel
theorem own_d_prog_7_method_5_code_42 : decode prog_7_method_5_code 42 = .ok (.invokestatic 49, 3) := by decide +kernel
theorem own_pd923192554 : parseMethodDescriptor "([III)I" = some ⟨[(.array .int), .int, .int], some .int⟩ := by decide +kernel
theorem own_d_prog_7_method_5_code_45 : decode prog_7_method_5_code 45 = .ok (.iload_n 2, 1) := by decide +kernel
theorem own_d_prog_7_method_5_code_46 : decode prog_7_method_5_code 46 = .ok (.iand, 1) := by decide +kernel
theorem own_d_prog_7_method_5_code_47 : decode prog_7_method_5_code 47 = .ok (.istore_n 3, 1) := by decide +kernel
theorem own_d_prog_7_method_5_code_48 : decode prog_7_method_5_code 48 = .ok (.aload_n 0, 1) := by decide +kernel
theorem own_d_prog_7_method_5_code_49 : decode prog_7_method_5_code 49 = .ok (.getfield 7, 3) := by decide +kernel
theorem own_d_prog_7_method_5_code_52 : decode prog_7_method_5_code 52 = .ok (.iload_n 3, 1) := by decide +kernel
theorem own_d_prog_7_method_5_code_53 : decode prog_7_method_5_code 53 = .ok (.iaload, 1) := by decide +kernel
theorem own_d_prog_7_method_5_code_54 : decode prog_7_method_5_code 54 = .ok (.ifCond .eq 30, 3) := by decide +kernel
theorem own_d_prog_7_method_5_code_84 : decode prog_7_method_5_code 84 = .ok (.aload_n 0, 1) := by decide +kernel
theorem own_d_prog_7_method_5_code_85 : decode prog_7_method_5_code 85 = .ok (.getfield 33, 3) := by decide +kernel
theorem own_d_prog_7_method_5_code_88 : decode prog_7_method_5_code 88 = .ok (.iconst 1, 1) := by decide +kernel
theorem own_d_prog_7_method_5_code_89 : decode prog_7_method_5_code 89 = .ok (.iadd, 1) := by decide +kernel
theorem own_d_prog_7_method_5_code_90 : decode prog_7_method_5_code 90 = .ok (.aload_n 0, 1) := by decide +kernel
theorem own_d_prog_7_method_5_code_91 : decode prog_7_method_5_code 91 = .ok (.getfield 20, 3) := by decide +kernel
theorem own_d_prog_7_method_5_code_94 : decode prog_7_method_5_code 94 = .ok (.imul, 1) := by decide +kernel
theorem own_d_prog_7_method_5_code_95 : decode prog_7_method_5_code 95 = .ok (.aload_n 0, 1) := by decide +kernel
theorem own_d_prog_7_method_5_code_96 : decode prog_7_method_5_code 96 = .ok (.getfield 30, 3) := by decide +kernel
theorem own_d_prog_7_method_5_code_99 : decode prog_7_method_5_code 99 = .ok (.arraylength, 1) := by decide +kernel
theorem own_d_prog_7_method_5_code_100 : decode prog_7_method_5_code 100 = .ok (.if_icmp .le 21, 3) := by decide +kernel
theorem own_d_prog_7_method_5_code_121 : decode prog_7_method_5_code 121 = .ok (.aload_n 1, 1) := by decide +kernel
theorem own_d_prog_7_method_5_code_122 : decode prog_7_method_5_code 122 = .ok (.iconst 0, 1) := by decide +kernel
theorem own_d_prog_7_method_5_code_123 : decode prog_7_method_5_code 123 = .ok (.aload_n 0, 1) := by decide +kernel
theorem own_d_prog_7_method_5_code_124 : decode prog_7_method_5_code 124 = .ok (.getfield 30, 3) := by decide +kernel
theorem own_d_prog_7_method_5_code_127 : decode prog_7_method_5_code 127 = .ok (.aload_n 0, 1) := by decide +kernel
theorem own_d_prog_7_method_5_code_128 : decode prog_7_method_5_code 128 = .ok (.getfield 33, 3) := by decide +kernel
theorem own_d_prog_7_method_5_code_131 : decode prog_7_method_5_code 131 = .ok (.aload_n 0, 1) := by decide +kernel
theorem own_d_prog_7_method_5_code_132 : decode prog_7_method_5_code 132 = .ok (.getfield 20, 3) := by decide +kernel
theorem own_d_prog_7_method_5_code_135 : decode prog_7_method_5_code 135 = .ok (.imul, 1) := by decide +kernel
theorem own_d_prog_7_method_5_code_136 : decode prog_7_method_5_code 136 = .ok (.aload_n 0, 1) := by decide +kernel
theorem own_d_prog_7_method_5_code_137 : decode prog_7_method_5_code 137 = .ok (.getfield 20, 3) := by decide +kernel
theorem own_d_prog_7_method_5_code_140 : decode prog_7_method_5_code 140 = .ok (.invokestatic 63, 3) := by decide +kernel
theorem own_d_prog_7_method_5_code_143 : decode prog_7_method_5_code 143 = .ok (.aload_n 0, 1) := by decide +kernel
theorem own_d_prog_7_method_5_code_144 : decode prog_7_method_5_code 144 = .ok (.getfield 7, 3) := by decide +kernel
theorem own_d_prog_7_method_5_code_147 : decode prog_7_method_5_code 147 = .ok (.iload_n 3, 1) := by decide +kernel
theorem own_d_prog_7_method_5_code_148 : decode prog_7_method_5_code 148 = .ok (.aload_n 0, 1) := by decide +kernel
theorem own_d_prog_7_method_5_code_149 : decode prog_7_method_5_code 149 = .ok (.getfield 33, 3) := by decide +kernel
theorem own_d_prog_7_method_5_code_152 : decode prog_7_method_5_code 152 = .ok (.iconst 1, 1) := by decide +kernel
theorem own_d_prog_7_method_5_code_153 : decode prog_7_method_5_code 153 = .ok (.iadd, 1) := by decide +kernel
theorem own_d_prog_7_method_5_code_154 : decode prog_7_method_5_code 154 = .ok (.iastore, 1) := by decide +kernel
theorem own_d_prog_7_method_5_code_155 : decode prog_7_method_5_code 155 = .ok (.aload_n 0, 1) := by decide +kernel
theorem own_d_prog_7_method_5_code_156 : decode prog_7_method_5_code 156 = .ok (.dup, 1) := by decide +kernel
theorem own_d_prog_7_method_5_code_157 : decode prog_7_method_5_code 157 = .ok (.getfield 33, 3) := by decide +kernel
theorem own_d_prog_7_method_5_code_160 : decode prog_7_method_5_code 160 = .ok (.iconst 1, 1) := by decide +kernel
theorem own_d_prog_7_method_5_code_161 : decode prog_7_method_5_code 161 = .ok (.iadd, 1) := by decide +kernel
theorem own_d_prog_7_method_5_code_162 : decode prog_7_method_5_code 162 = .ok (.putfield 33, 3) := by decide +kernel
theorem own_d_prog_7_method_5_code_165 : decode prog_7_method_5_code 165 = .ok (.aload_n 0, 1) := by decide +kernel
theorem own_d_prog_7_method_5_code_166 : decode prog_7_method_5_code 166 = .ok (.getfield 16, 3) := by decide +kernel
theorem own_d_prog_7_method_5_code_169 : decode prog_7_method_5_code 169 = .ok (.invokeinterface 69 1, 5) := by decide +kernel
theorem own_d_prog_7_method_5_code_174 : decode prog_7_method_5_code 174 = .ok (.aload_n 0, 1) := by decide +kernel
theorem own_d_prog_7_method_5_code_175 : decode prog_7_method_5_code 175 = .ok (.getfield 33, 3) := by decide +kernel
theorem own_d_prog_7_method_5_code_178 : decode prog_7_method_5_code 178 = .ok (.iconst 2, 1) := by decide +kernel
theorem own_d_prog_7_method_5_code_179 : decode prog_7_method_5_code 179 = .ok (.imul, 1) := by decide +kernel
theorem own_d_prog_7_method_5_code_180 : decode prog_7_method_5_code 180 = .ok (.aload_n 0, 1) := by decide +kernel
theorem own_d_prog_7_method_5_code_181 : decode prog_7_method_5_code 181 = .ok (.getfield 7, 3) := by decide +kernel
theorem own_d_prog_7_method_5_code_184 : decode prog_7_method_5_code 184 = .ok (.arraylength, 1) := by decide +kernel
theorem own_d_prog_7_method_5_code_185 : decode prog_7_method_5_code 185 = .ok (.if_icmp .le 7, 3) := by decide +kernel
theorem own_d_prog_7_method_5_code_192 : decode prog_7_method_5_code 192 = .ok (.iconst 1, 1) := by decide +kernel
theorem own_d_prog_7_method_5_code_193 : decode prog_7_method_5_code 193 = .ok (.ireturn, 1) := by decide +kernel
theorem own_d_prog_7_method_5_code_57 : decode prog_7_method_5_code 57 = .ok (.aload_n 0, 1) := by decide +kernel
theorem own_d_prog_7_method_5_code_58 : decode prog_7_method_5_code 58 = .ok (.aload_n 0, 1) := by decide +kernel
theorem own_d_prog_7_method_5_code_59 : decode prog_7_method_5_code 59 = .ok (.getfield 7, 3) := by decide +kernel
theorem own_d_prog_7_method_5_code_62 : decode prog_7_method_5_code 62 = .ok (.iload_n 3, 1) := by decide +kernel
theorem own_d_prog_7_method_5_code_63 : decode prog_7_method_5_code 63 = .ok (.iaload, 1) := by decide +kernel
theorem own_d_prog_7_method_5_code_64 : decode prog_7_method_5_code 64 = .ok (.iconst 1, 1) := by decide +kernel
theorem own_d_prog_7_method_5_code_65 : decode prog_7_method_5_code 65 = .ok (.isub, 1) := by decide +kernel
theorem own_d_prog_7_method_5_code_66 : decode prog_7_method_5_code 66 = .ok (.aload_n 1, 1) := by decide +kernel
theorem own_d_prog_7_method_5_code_67 : decode prog_7_method_5_code 67 = .ok (.invokevirtual 53, 3) := by decide +kernel
theorem own_pd883914768 : parseMethodDescriptor "(I[I)Z" = some ⟨[.int, (.array .int)], some .boolean⟩ := by decide +kernel
theorem own_d_prog_7_method_5_code_70 : decode prog_7_method_5_code 70 = .ok (.ifCond .eq 5, 3) := by decide +kernel
theorem own_d_prog_7_method_5_code_75 : decode prog_7_method_5_code 75 = .ok (.iload_n 3, 1) := by decide +kernel
theorem own_d_prog_7_method_5_code_76 : decode prog_7_method_5_code 76 = .ok (.iconst 1, 1) := by decide +kernel
theorem own_d_prog_7_method_5_code_77 : decode prog_7_method_5_code 77 = .ok (.iadd, 1) := by decide +kernel
theorem own_d_prog_7_method_5_code_78 : decode prog_7_method_5_code 78 = .ok (.iload_n 2, 1) := by decide +kernel
theorem own_d_prog_7_method_5_code_79 : decode prog_7_method_5_code 79 = .ok (.iand, 1) := by decide +kernel
theorem own_d_prog_7_method_5_code_80 : decode prog_7_method_5_code 80 = .ok (.istore_n 3, 1) := by decide +kernel
theorem own_d_prog_7_method_5_code_81 : decode prog_7_method_5_code 81 = .ok (.goto (-33), 3) := by decide +kernel
theorem own_ef_own_add_ins (m : MethodId) (x0 : Addr) (x1 : Addr) : entryFrame m #[(.ref x0), (.ref x1)] 4 = mkF m 0 #[.val (.ref x0), .val (.ref x1), .unset, .unset] [] := by first | (simp [entryFrame, mkF, argsToLocals, Value.category]; done) | rfl
def own_Q_own_add_ins (Z : State) (a : Addr) (t : Addr) (rb : Addr) (mp : Addr) (vb : Addr) (kr : ClassId) (kv : ClassId) (kt : ClassId) (rf : Nat → Int32) (vf : Nat → Int32) (xx : Int32) (yy : Int32) (sz : Int32) (mc : Int32) (ii : Nat) (h0 : Heap) (n0 : Nat) (v : Option Value) (h : Heap) (L : List Loc) : Prop := ∃ (rf2 : Nat → Int32) (vf2 : Nat → Int32), (v = some (.int (1 : Int32))) ∧ (Fr n0 L) ∧ (Keep h0 h [a, rb, vb, mp]) ∧ (Fld Z h a "com/example/lehti/lehti/eval/Relation" "rowsByTuple" "[I" (.ref rb)) ∧ (Fld Z h a "com/example/lehti/lehti/eval/Relation" "indexes" "Ljava/util/Map;" (.ref mp)) ∧ (Fld Z h a "com/example/lehti/lehti/eval/Relation" "arity" "I" (.int (2 : Int32))) ∧ (Fld Z h a "com/example/lehti/lehti/eval/Relation" "values" "[I" (.ref vb)) ∧ (Fld Z h a "com/example/lehti/lehti/eval/Relation" "size" "I" (.int (sz + (1 : Int32)))) ∧ (Arv Z h rb kr .int (16 : Int32) (own_fl 16 rf2) (.int (0 : Int32))) ∧ (Arv Z h vb kv .int (32 : Int32) (own_fl 32 vf2) (.int (0 : Int32))) ∧ (Fld Z h mp "java/util/HashMap" "modCount" "I" (.int (mc + (1 : Int32)))) ∧ (Fld Z h mp "java/util/HashMap" "table" "[Ljava/util/HashMap$Node;" .null) ∧ (∀ q, rf2 q = if q = ii then (sz + (1 : Int32)) else rf q) ∧ (∀ q, vf2 q = if q = 2 * sz.toNatClampNeg + 1 then yy else if q = 2 * sz.toNatClampNeg then xx else vf q)
set_option maxRecDepth 65536 in
set_option maxHeartbeats 40000000 in
theorem own_add_ins (l : Launch) (Z : State) (a0 : Array Value) (hw : ∀ d ∈ tables_1, d.before a0 Z = true) (ws : List Jvm.Cond) (a : Addr) (t : Addr) (rb : Addr) (mp : Addr) (vb : Addr) (kr : ClassId) (kv : ClassId) (kt : ClassId) (rf : Nat → Int32) (vf : Nat → Int32) (xx : Int32) (yy : Int32) (sz : Int32) (mc : Int32) (ii : Nat) (h0 : Heap) (n0 : Nat) (Z0 : n0 ≤ h0.size) (E_a : Exa Z h0 a "com/example/lehti/lehti/eval/Relation") (F_a_rowsByTuple : Fld Z h0 a "com/example/lehti/lehti/eval/Relation" "rowsByTuple" "[I" (.ref rb)) (F_a_indexes : Fld Z h0 a "com/example/lehti/lehti/eval/Relation" "indexes" "Ljava/util/Map;" (.ref mp)) (F_a_arity : Fld Z h0 a "com/example/lehti/lehti/eval/Relation" "arity" "I" (.int (2 : Int32))) (F_a_values : Fld Z h0 a "com/example/lehti/lehti/eval/Relation" "values" "[I" (.ref vb)) (F_a_size : Fld Z h0 a "com/example/lehti/lehti/eval/Relation" "size" "I" (.int sz)) (V_rb : Arv Z h0 rb kr .int (16 : Int32) (own_fl 16 rf) (.int (0 : Int32))) (V_vb : Arv Z h0 vb kv .int (32 : Int32) (own_fl 32 vf) (.int (0 : Int32))) (V_t : Arv Z h0 t kt .int (2 : Int32) [(.int xx), (.int yy)] (.int (0 : Int32))) (E_mp : Exa Z h0 mp "java/util/HashMap") (F_mp_modCount : Fld Z h0 mp "java/util/HashMap" "modCount" "I" (.int mc)) (F_mp_table : Fld Z h0 mp "java/util/HashMap" "table" "[Ljava/util/HashMap$Node;" .null) (g_a : n0 ≤ a) (g_rb : n0 ≤ rb) (g_mp : n0 ≤ mp) (g_vb : n0 ≤ vb) (ne_a_t : a ≠ t) (ne_a_rb : a ≠ rb) (ne_a_mp : a ≠ mp) (ne_a_vb : a ≠ vb) (ne_t_rb : t ≠ rb) (ne_t_mp : t ≠ mp) (ne_t_vb : t ≠ vb) (ne_rb_mp : rb ≠ mp) (ne_rb_vb : rb ≠ vb) (ne_mp_vb : mp ≠ vb) (hn : sz = (0 : Int32) ∨ sz = (1 : Int32) ∨ sz = (2 : Int32)) (hrf : ∀ q, rf q = (0 : Int32) ∨ rf q = (1 : Int32) ∨ rf q = (2 : Int32)) (hfind : own_find rf vf xx yy 16 (own_h xx yy) = some (some ii)) :
    MetFree l (⟨"com/example/lehti/lehti/eval/Relation", "add", "([I)Z"⟩ : MethodName) (head1 (Jvm.Cond.code (⟨"com/example/lehti/lehti/eval/Relation", "add", "([I)Z"⟩ : MethodName) prog_7_method_5_code 4 (some .boolean) :: ws) ({ frames := 1, cells := 0, slots := 0, locals := 18 } : Room)) (fun xa xU => xa = #[(.ref a), (.ref t)] ∧ Z.Warmed39 xU.vm ∧ xU.heap = h0) (fun _ _ _ _ _ => True) (fun _ xU xo xV => ∃ v L, xo = .returned v ∧ own_Q_own_add_ins Z a t rb mp vb kr kv kt rf vf xx yy sz mc ii h0 n0 v xV.heap L ∧ FrameEnd xU xo xV L ({ frames := 1, cells := 0, slots := 0, locals := 18 } : Room).cells ({ frames := 1, cells := 0, slots := 0, locals := 18 } : Room).slots) := by
  refine MetFree.of_bodySF (plainFor_of_name own_pn798614349) hisR ?_
  intro p e s m args below meth c s₁ Bd hml0 hP hK
  obtain ⟨rfl, hZ, hh⟩ := hP
  have hx := Bd.exec
  have hby := Bd.bytes
  have hlk := Bd.notSynchronized
  have hret := Bd.returns
  have hml : c.maxLocals = 4 := hml0
  have hown : s.vm.findClass "com/example/lehti/lehti/eval/Relation" = some m.cls := findClass_of_methodNamed Bd.named
  have hnm := (name_of_methodNamed Bd.named Bd.method).1
  have X0 : Stand p l e ({ frames := 1, cells := 0, slots := 0, locals := 18 } : Room) s m #[(.ref a), (.ref t)] below meth c s₁ [] 0 0 := Stand.of_body Bd
  have e0 : s₁.heap = h0 := by rw [← hh, Bd.state]; rfl
  have N0 := Fr.nil n0
  show own_Gl p e below s (own_Q_own_add_ins Z a t rb mp vb kr kv kt rf vf xx yy sz mc ii h0 n0) ({ frames := 1, cells := 0, slots := 0, locals := 18 } : Room).cells ({ frames := 1, cells := 0, slots := 0, locals := 18 } : Room).slots _
  refine own_cast (own_ef_own_add_ins m a t) ?_
  show own_Gl _ _ _ _ _ _ _ (s₁.setTop (mkF m 0 #[.val (.ref a), .val (.ref t), .unset, .unset] []))
  refine own_st (fun _ k => XS.aloadN X0.here hx rfl (hb hby own_d_prog_7_method_5_code_0) rfl rfl k) ?_
  show own_Gl _ _ _ _ _ _ _ (s₁.setTop (mkF m 1 #[.val (.ref a), .val (.ref t), .unset, .unset] [(.ref t)]))
  obtain ⟨cl1, Ar1, qq1, Ss1, Nn1, Hh1, Gg1⟩ := id V_t
  refine own_st (X0.arraylength hx (by rw [e0]; exact Ar1.1) (State.isArrayOf_alike hZ.alike Ar1.2.1) (g := (mkF m 1 #[.val (.ref a), .val (.ref t), .unset, .unset] [(.ref t)])) rfl rfl (hb hby own_d_prog_7_method_5_code_1)) ?_
  rw [len_of Ss1 Nn1]
  show own_Gl _ _ _ _ _ _ _ (s₁.setTop (mkF m 2 #[.val (.ref a), .val (.ref t), .unset, .unset] [(.int (2 : Int32))]))
  refine own_st (fun _ k => XS.aloadN X0.here hx rfl (hb hby own_d_prog_7_method_5_code_2) rfl rfl k) ?_
  show own_Gl _ _ _ _ _ _ _ (s₁.setTop (mkF m 3 #[.val (.ref a), .val (.ref t), .unset, .unset] [(.ref a), (.int (2 : Int32))]))
  obtain ⟨T2, X2, e2, st2⟩ := getF X0 hx hZ hown (host := "") (Or.inl (hw _ (List.mem_of_getElem? (i := 30) rfl))) Via.refl e0 F_a_arity (g := (mkF m 3 #[.val (.ref a), .val (.ref t), .unset, .unset] [(.ref a), (.int (2 : Int32))])) rfl rfl (hb hby own_d_prog_7_method_5_code_3)
  refine own_st st2 ?_
  show own_Gl _ _ _ _ _ _ _ (T2.setTop (mkF m 6 #[.val (.ref a), .val (.ref t), .unset, .unset] [(.int (2 : Int32)), (.int (2 : Int32))]))
  have hd3 : (2 : Int32) = (2 : Int32) := (by decide)
  refine own_st (fun _ k => XS.icmpYes X2.here hx rfl (pc0 := 6) (pc' := 28) rfl (hb hby own_d_prog_7_method_5_code_6) rfl (teq hd3).1 (by decide) (by decide) k) ?_
  show own_Gl _ _ _ _ _ _ _ (T2.setTop (mkF m 28 #[.val (.ref a), .val (.ref t), .unset, .unset] []))
  refine own_st (fun _ k => XS.aloadN X2.here hx rfl (hb hby own_d_prog_7_method_5_code_28) rfl rfl k) ?_
  show own_Gl _ _ _ _ _ _ _ (T2.setTop (mkF m 29 #[.val (.ref a), .val (.ref t), .unset, .unset] [(.ref a)]))
  obtain ⟨T4, X4, e4, st4⟩ := getF X2 hx hZ hown (host := "") (Or.inl (hw _ (List.mem_of_getElem? (i := 10) rfl))) Via.refl e2 F_a_rowsByTuple (g := (mkF m 29 #[.val (.ref a), .val (.ref t), .unset, .unset] [(.ref a)])) rfl rfl (hb hby own_d_prog_7_method_5_code_29)
  refine own_st st4 ?_
  show own_Gl _ _ _ _ _ _ _ (T4.setTop (mkF m 32 #[.val (.ref a), .val (.ref t), .unset, .unset] [(.ref rb)]))
  obtain ⟨cl5, Ar5, qq5, Ss5, Nn5, Hh5, Gg5⟩ := id V_rb
  refine own_st (X4.arraylength hx (by rw [e4]; exact Ar5.1) (State.isArrayOf_alike hZ.alike Ar5.2.1) (g := (mkF m 32 #[.val (.ref a), .val (.ref t), .unset, .unset] [(.ref rb)])) rfl rfl (hb hby own_d_prog_7_method_5_code_32)) ?_
  rw [len_of Ss5 Nn5]
  show own_Gl _ _ _ _ _ _ _ (T4.setTop (mkF m 33 #[.val (.ref a), .val (.ref t), .unset, .unset] [(.int (16 : Int32))]))
  refine own_st (fun _ k => XS.iconst X4.here hx rfl (hb hby own_d_prog_7_method_5_code_33) k) ?_
  show own_Gl _ _ _ _ _ _ _ (T4.setTop (mkF m 34 #[.val (.ref a), .val (.ref t), .unset, .unset] [(.int (1 : Int32)), (.int (16 : Int32))]))
  refine own_st (fun _ k => XS.isub X4.here hx rfl (hb hby own_d_prog_7_method_5_code_34) rfl k) ?_
  show own_Gl _ _ _ _ _ _ _ (T4.setTop (mkF m 35 #[.val (.ref a), .val (.ref t), .unset, .unset] [(.int (15 : Int32))]))
  refine own_st (fun _ k => XS.istoreN X4.here hx rfl (hb hby own_d_prog_7_method_5_code_35) rfl (l' := #[.val (.ref a), .val (.ref t), .val (.int (15 : Int32)), .unset]) rfl k) ?_
  show own_Gl _ _ _ _ _ _ _ (T4.setTop (mkF m 36 #[.val (.ref a), .val (.ref t), .val (.int (15 : Int32)), .unset] []))
  refine own_st (fun _ k => XS.aloadN X4.here hx rfl (hb hby own_d_prog_7_method_5_code_36) rfl rfl k) ?_
  show own_Gl _ _ _ _ _ _ _ (T4.setTop (mkF m 37 #[.val (.ref a), .val (.ref t), .val (.int (15 : Int32)), .unset] [(.ref t)]))
  refine own_st (fun _ k => XS.iconst X4.here hx rfl (hb hby own_d_prog_7_method_5_code_37) k) ?_
  show own_Gl _ _ _ _ _ _ _ (T4.setTop (mkF m 38 #[.val (.ref a), .val (.ref t), .val (.int (15 : Int32)), .unset] [(.int (0 : Int32)), (.ref t)]))
  refine own_st (fun _ k => XS.aloadN X4.here hx rfl (hb hby own_d_prog_7_method_5_code_38) rfl rfl k) ?_
  show own_Gl _ _ _ _ _ _ _ (T4.setTop (mkF m 39 #[.val (.ref a), .val (.ref t), .val (.int (15 : Int32)), .unset] [(.ref a), (.int (0 : Int32)), (.ref t)]))
  obtain ⟨T6, X6, e6, st6⟩ := getF X4 hx hZ hown (host := "") (Or.inl (hw _ (List.mem_of_getElem? (i := 30) rfl))) Via.refl e4 F_a_arity (g := (mkF m 39 #[.val (.ref a), .val (.ref t), .val (.int (15 : Int32)), .unset] [(.ref a), (.int (0 : Int32)), (.ref t)])) rfl rfl (hb hby own_d_prog_7_method_5_code_39)
  refine own_st st6 ?_
  show own_Gl _ _ _ _ _ _ _ (T6.setTop (mkF m 42 #[.val (.ref a), .val (.ref t), .val (.int (15 : Int32)), .unset] [(.int (2 : Int32)), (.int (0 : Int32)), (.ref t)]))
  obtain ⟨_, _, ⟨T7, L7, k7, n7⟩, -, X7, ⟨Lc7, hQ7, l7, y7, z7⟩, st7⟩ := Jvm.LawKit.callS X6 hx (y := (⟨"com/example/lehti/lehti/eval/Relation", "hash", "([III)I"⟩ : MethodName)) hown (mvT hZ (hw _ (List.mem_of_getElem? (i := 43) rfl))) (mvT hZ (hw _ (List.mem_of_getElem? (i := 44) rfl))) (mvT hZ (hw _ (List.mem_of_getElem? (i := 2) rfl))) (mvT hZ (hw _ (List.mem_of_getElem? (i := 45) rfl))) (by decide) (backOf (W := 0) (own_rhash l Z a0 hw [] t kt xx yy h0 n0 Z0 V_t) hZ (hw _ (List.mem_of_getElem? (i := 45) rfl)) (hw _ (List.mem_of_getElem? (i := 2) rfl)) (by decide) (by decide)) (g := (mkF m 42 #[.val (.ref a), .val (.ref t), .val (.int (15 : Int32)), .unset] [(.int (2 : Int32)), (.int (0 : Int32)), (.ref t)])) rfl (by rw [hml]; rfl) (argsL := [(.ref t), (.int (0 : Int32)), (.int (2 : Int32))]) (rest := []) (lenOf own_pd923192554 rfl) rfl (by show 2 * 0 + _ ≤ _; exact Nat.le_of_eq rfl) (hb hby own_d_prog_7_method_5_code_42) (fun _ _ => ⟨rfl, e6, (by decide : 0 + 0 ≤ ({ frames := 1, cells := 0, slots := 0, locals := 18 } : Room).cells), (by decide : 0 + 0 ≤ ({ frames := 1, cells := 0, slots := 0, locals := 18 } : Room).slots)⟩)
  dsimp only [Pt.U, Pt.locs, Pt.cells, Pt.slots] at X7 l7 y7 z7 st7 hQ7
  subst l7 y7 z7
  obtain ⟨hh7, eh07⟩ : ∃ z, T7.heap = z := ⟨_, rfl⟩
  rw [eh07] at hQ7
  obtain ⟨rfl, Nq7, eh7⟩ := hQ7
  have N7 := Fr.app N0 Nq7
  refine own_st st7 ?_
  have e7 : T7.heap = h0 := eh07.trans eh7
  show own_Gl _ _ _ _ _ _ _ (T7.setTop (mkF m 45 #[.val (.ref a), .val (.ref t), .val (.int (15 : Int32)), .unset] [(.int (own_hash xx yy))]))
  refine own_st (fun _ k => XS.iloadN X7.here hx rfl (hb hby own_d_prog_7_method_5_code_45) rfl k) ?_
  show own_Gl _ _ _ _ _ _ _ (T7.setTop (mkF m 46 #[.val (.ref a), .val (.ref t), .val (.int (15 : Int32)), .unset] [(.int (15 : Int32)), (.int (own_hash xx yy))]))
  refine own_st (fun _ k => XS.iand X7.here hx rfl (hb hby own_d_prog_7_method_5_code_46) rfl k) ?_
  show own_Gl _ _ _ _ _ _ _ (T7.setTop (mkF m 47 #[.val (.ref a), .val (.ref t), .val (.int (15 : Int32)), .unset] [(.int ((own_hash xx yy) &&& (15 : Int32)))]))
  refine own_st (fun _ k => XS.istoreN X7.here hx rfl (hb hby own_d_prog_7_method_5_code_47) rfl (l' := #[.val (.ref a), .val (.ref t), .val (.int (15 : Int32)), .val (.int ((own_hash xx yy) &&& (15 : Int32)))]) rfl k) ?_
  show own_Gl _ _ _ _ _ _ _ (T7.setTop (mkF m 48 #[.val (.ref a), .val (.ref t), .val (.int (15 : Int32)), .val (.int ((own_hash xx yy) &&& (15 : Int32)))] []))
  have J48_8 : ∀ (k8 : Nat) (T8 : State) (LL8 : List Loc) (N8 : Fr n0 LL8) (X8 : Stand p l e ({ frames := 1, cells := 0, slots := 0, locals := 18 } : Room) s m #[(.ref a), (.ref t)] below meth c T8 LL8 0 0) (e8 : T8.heap = h0) (fu : Nat) (ix : Int32) (hix : ¬ ix < 0 ∧ ix < (16 : Int32)) (hf : own_find rf vf xx yy fu ix.toNatClampNeg = some (some ii)) (hk8 : fu = k8), own_Gl p e below s (own_Q_own_add_ins Z a t rb mp vb kr kv kt rf vf xx yy sz mc ii h0 n0) ({ frames := 1, cells := 0, slots := 0, locals := 18 } : Room).cells ({ frames := 1, cells := 0, slots := 0, locals := 18 } : Room).slots (T8.setTop (mkF m 48 #[.val (.ref a), .val (.ref t), .val (.int (15 : Int32)), .val (.int ix)] [])) := by
    intro k8
    induction k8 using Nat.strongRecOn with
    | _ k8 ih8 =>
      intro T8 LL8 N8 X8 e8 fu ix hix hf hk8
      show own_Gl _ _ _ _ _ _ _ (T8.setTop (mkF m 48 #[.val (.ref a), .val (.ref t), .val (.int (15 : Int32)), .val (.int ix)] []))
      obtain ⟨fq, rfl⟩ : ∃ q, fu = q + 1 := by
        cases fu with
        | zero => cases hf
        | succ q => exact ⟨q, rfl⟩
      rw [own_find_succ] at hf
      refine own_st (fun _ k => XS.aloadN X8.here hx rfl (hb hby own_d_prog_7_method_5_code_48) rfl rfl k) ?_
      show own_Gl _ _ _ _ _ _ _ (T8.setTop (mkF m 49 #[.val (.ref a), .val (.ref t), .val (.int (15 : Int32)), .val (.int ix)] [(.ref a)]))
      obtain ⟨T9, X9, e9, st9⟩ := getF X8 hx hZ hown (host := "") (Or.inl (hw _ (List.mem_of_getElem? (i := 10) rfl))) Via.refl e8 F_a_rowsByTuple (g := (mkF m 49 #[.val (.ref a), .val (.ref t), .val (.int (15 : Int32)), .val (.int ix)] [(.ref a)])) rfl rfl (hb hby own_d_prog_7_method_5_code_49)
      refine own_st st9 ?_
      show own_Gl _ _ _ _ _ _ _ (T9.setTop (mkF m 52 #[.val (.ref a), .val (.ref t), .val (.int (15 : Int32)), .val (.int ix)] [(.ref rb)]))
      refine own_st (fun _ k => XS.iloadN X9.here hx rfl (hb hby own_d_prog_7_method_5_code_52) rfl k) ?_
      show own_Gl _ _ _ _ _ _ _ (T9.setTop (mkF m 53 #[.val (.ref a), .val (.ref t), .val (.int (15 : Int32)), .val (.int ix)] [(.int ix), (.ref rb)]))
      obtain ⟨cl10, Ar10, qq10, Ss10, Nn10, Hh10, Gg10⟩ := id V_rb
      have hin10 : ¬ (ix < 0 ∨ cl10.slots.size ≤ (ix).toNatClampNeg) := inb_of Ss10 hix
      have hat10 : cl10.slots[(ix).toNatClampNeg]? = some (.int (rf ix.toNatClampNeg)) := Hh10.at hin10 (own_fl_get _ _ _ _ (own_lt16 hix))
      refine own_st (X9.iaload hx (j := ix) (v := (.int (rf ix.toNatClampNeg))) (by rw [e9]; exact Ar10.1) (State.isArrayOf_alike hZ.alike Ar10.2.1) Ar10.2.2 hin10 hat10 (g := (mkF m 53 #[.val (.ref a), .val (.ref t), .val (.int (15 : Int32)), .val (.int ix)] [(.int ix), (.ref rb)])) rfl rfl (hb hby own_d_prog_7_method_5_code_53)) ?_
      show own_Gl _ _ _ _ _ _ _ (T9.setTop (mkF m 54 #[.val (.ref a), .val (.ref t), .val (.int (15 : Int32)), .val (.int ix)] [(.int (rf ix.toNatClampNeg))]))
      by_cases hc54 : (rf ix.toNatClampNeg) = (0 : Int32)
      · rw [if_pos hc54] at hf
        have hi : ix.toNatClampNeg = ii := Option.some.inj (Option.some.inj hf)
        refine own_st (fun _ k => XS.ifYes X9.here hx rfl (pc0 := 54) (pc' := 84) rfl (hb hby own_d_prog_7_method_5_code_54) rfl ((if0 _ _).trans (teq hc54).1) (by decide) (by decide) k) ?_
        show own_Gl _ _ _ _ _ _ _ (T9.setTop (mkF m 84 #[.val (.ref a), .val (.ref t), .val (.int (15 : Int32)), .val (.int ix)] []))
        refine own_st (fun _ k => XS.aloadN X9.here hx rfl (hb hby own_d_prog_7_method_5_code_84) rfl rfl k) ?_
        show own_Gl _ _ _ _ _ _ _ (T9.setTop (mkF m 85 #[.val (.ref a), .val (.ref t), .val (.int (15 : Int32)), .val (.int ix)] [(.ref a)]))
        obtain ⟨T11, X11, e11, st11⟩ := getF X9 hx hZ hown (host := "") (Or.inl (hw _ (List.mem_of_getElem? (i := 49) rfl))) Via.refl e9 F_a_size (g := (mkF m 85 #[.val (.ref a), .val (.ref t), .val (.int (15 : Int32)), .val (.int ix)] [(.ref a)])) rfl rfl (hb hby own_d_prog_7_method_5_code_85)
        refine own_st st11 ?_
        show own_Gl _ _ _ _ _ _ _ (T11.setTop (mkF m 88 #[.val (.ref a), .val (.ref t), .val (.int (15 : Int32)), .val (.int ix)] [(.int sz)]))
        refine own_st (fun _ k => XS.iconst X11.here hx rfl (hb hby own_d_prog_7_method_5_code_88) k) ?_
        show own_Gl _ _ _ _ _ _ _ (T11.setTop (mkF m 89 #[.val (.ref a), .val (.ref t), .val (.int (15 : Int32)), .val (.int ix)] [(.int (1 : Int32)), (.int sz)]))
        refine own_st (fun _ k => XS.iadd X11.here hx rfl (hb hby own_d_prog_7_method_5_code_89) rfl k) ?_
        show own_Gl _ _ _ _ _ _ _ (T11.setTop (mkF m 90 #[.val (.ref a), .val (.ref t), .val (.int (15 : Int32)), .val (.int ix)] [(.int (sz + (1 : Int32)))]))
        refine own_st (fun _ k => XS.aloadN X11.here hx rfl (hb hby own_d_prog_7_method_5_code_90) rfl rfl k) ?_
        show own_Gl _ _ _ _ _ _ _ (T11.setTop (mkF m 91 #[.val (.ref a), .val (.ref t), .val (.int (15 : Int32)), .val (.int ix)] [(.ref a), (.int (sz + (1 : Int32)))]))
        obtain ⟨T12, X12, e12, st12⟩ := getF X11 hx hZ hown (host := "") (Or.inl (hw _ (List.mem_of_getElem? (i := 30) rfl))) Via.refl e11 F_a_arity (g := (mkF m 91 #[.val (.ref a), .val (.ref t), .val (.int (15 : Int32)), .val (.int ix)] [(.ref a), (.int (sz + (1 : Int32)))])) rfl rfl (hb hby own_d_prog_7_method_5_code_91)
        refine own_st st12 ?_
        show own_Gl _ _ _ _ _ _ _ (T12.setTop (mkF m 94 #[.val (.ref a), .val (.ref t), .val (.int (15 : Int32)), .val (.int ix)] [(.int (2 : Int32)), (.int (sz + (1 : Int32)))]))
        refine own_st (fun _ k => XS.imul X12.here hx rfl (hb hby own_d_prog_7_method_5_code_94) rfl k) ?_
        show own_Gl _ _ _ _ _ _ _ (T12.setTop (mkF m 95 #[.val (.ref a), .val (.ref t), .val (.int (15 : Int32)), .val (.int ix)] [(.int ((sz + (1 : Int32)) * (2 : Int32)))]))
        refine own_st (fun _ k => XS.aloadN X12.here hx rfl (hb hby own_d_prog_7_method_5_code_95) rfl rfl k) ?_
        show own_Gl _ _ _ _ _ _ _ (T12.setTop (mkF m 96 #[.val (.ref a), .val (.ref t), .val (.int (15 : Int32)), .val (.int ix)] [(.ref a), (.int ((sz + (1 : Int32)) * (2 : Int32)))]))
        obtain ⟨T13, X13, e13, st13⟩ := getF X12 hx hZ hown (host := "") (Or.inl (hw _ (List.mem_of_getElem? (i := 36) rfl))) Via.refl e12 F_a_values (g := (mkF m 96 #[.val (.ref a), .val (.ref t), .val (.int (15 : Int32)), .val (.int ix)] [(.ref a), (.int ((sz + (1 : Int32)) * (2 : Int32)))])) rfl rfl (hb hby own_d_prog_7_method_5_code_96)
        refine own_st st13 ?_
        show own_Gl _ _ _ _ _ _ _ (T13.setTop (mkF m 99 #[.val (.ref a), .val (.ref t), .val (.int (15 : Int32)), .val (.int ix)] [(.ref vb), (.int ((sz + (1 : Int32)) * (2 : Int32)))]))
        obtain ⟨cl14, Ar14, qq14, Ss14, Nn14, Hh14, Gg14⟩ := id V_vb
        refine own_st (X13.arraylength hx (by rw [e13]; exact Ar14.1) (State.isArrayOf_alike hZ.alike Ar14.2.1) (g := (mkF m 99 #[.val (.ref a), .val (.ref t), .val (.int (15 : Int32)), .val (.int ix)] [(.ref vb), (.int ((sz + (1 : Int32)) * (2 : Int32)))])) rfl rfl (hb hby own_d_prog_7_method_5_code_99)) ?_
        rw [len_of Ss14 Nn14]
        show own_Gl _ _ _ _ _ _ _ (T13.setTop (mkF m 100 #[.val (.ref a), .val (.ref t), .val (.int (15 : Int32)), .val (.int ix)] [(.int (32 : Int32)), (.int ((sz + (1 : Int32)) * (2 : Int32)))]))
        have hd15 : ¬ ((32 : Int32) < ((sz + (1 : Int32)) * (2 : Int32))) := own_capA hn
        refine own_st (fun _ k => XS.icmpYes X13.here hx rfl (pc0 := 100) (pc' := 121) rfl (hb hby own_d_prog_7_method_5_code_100) rfl (flt hd15).2.2.2 (by decide) (by decide) k) ?_
        show own_Gl _ _ _ _ _ _ _ (T13.setTop (mkF m 121 #[.val (.ref a), .val (.ref t), .val (.int (15 : Int32)), .val (.int ix)] []))
        refine own_st (fun _ k => XS.aloadN X13.here hx rfl (hb hby own_d_prog_7_method_5_code_121) rfl rfl k) ?_
        show own_Gl _ _ _ _ _ _ _ (T13.setTop (mkF m 122 #[.val (.ref a), .val (.ref t), .val (.int (15 : Int32)), .val (.int ix)] [(.ref t)]))
        refine own_st (fun _ k => XS.iconst X13.here hx rfl (hb hby own_d_prog_7_method_5_code_122) k) ?_
        show own_Gl _ _ _ _ _ _ _ (T13.setTop (mkF m 123 #[.val (.ref a), .val (.ref t), .val (.int (15 : Int32)), .val (.int ix)] [(.int (0 : Int32)), (.ref t)]))
        refine own_st (fun _ k => XS.aloadN X13.here hx rfl (hb hby own_d_prog_7_method_5_code_123) rfl rfl k) ?_
        show own_Gl _ _ _ _ _ _ _ (T13.setTop (mkF m 124 #[.val (.ref a), .val (.ref t), .val (.int (15 : Int32)), .val (.int ix)] [(.ref a), (.int (0 : Int32)), (.ref t)]))
        obtain ⟨T16, X16, e16, st16⟩ := getF X13 hx hZ hown (host := "") (Or.inl (hw _ (List.mem_of_getElem? (i := 36) rfl))) Via.refl e13 F_a_values (g := (mkF m 124 #[.val (.ref a), .val (.ref t), .val (.int (15 : Int32)), .val (.int ix)] [(.ref a), (.int (0 : Int32)), (.ref t)])) rfl rfl (hb hby own_d_prog_7_method_5_code_124)
        refine own_st st16 ?_
        show own_Gl _ _ _ _ _ _ _ (T16.setTop (mkF m 127 #[.val (.ref a), .val (.ref t), .val (.int (15 : Int32)), .val (.int ix)] [(.ref vb), (.int (0 : Int32)), (.ref t)]))
        refine own_st (fun _ k => XS.aloadN X16.here hx rfl (hb hby own_d_prog_7_method_5_code_127) rfl rfl k) ?_
        show own_Gl _ _ _ _ _ _ _ (T16.setTop (mkF m 128 #[.val (.ref a), .val (.ref t), .val (.int (15 : Int32)), .val (.int ix)] [(.ref a), (.ref vb), (.int (0 : Int32)), (.ref t)]))
        obtain ⟨T17, X17, e17, st17⟩ := getF X16 hx hZ hown (host := "") (Or.inl (hw _ (List.mem_of_getElem? (i := 49) rfl))) Via.refl e16 F_a_size (g := (mkF m 128 #[.val (.ref a), .val (.ref t), .val (.int (15 : Int32)), .val (.int ix)] [(.ref a), (.ref vb), (.int (0 : Int32)), (.ref t)])) rfl rfl (hb hby own_d_prog_7_method_5_code_128)
        refine own_st st17 ?_
        show own_Gl _ _ _ _ _ _ _ (T17.setTop (mkF m 131 #[.val (.ref a), .val (.ref t), .val (.int (15 : Int32)), .val (.int ix)] [(.int sz), (.ref vb), (.int (0 : Int32)), (.ref t)]))
        refine own_st (fun _ k => XS.aloadN X17.here hx rfl (hb hby own_d_prog_7_method_5_code_131) rfl rfl k) ?_
        show own_Gl _ _ _ _ _ _ _ (T17.setTop (mkF m 132 #[.val (.ref a), .val (.ref t), .val (.int (15 : Int32)), .val (.int ix)] [(.ref a), (.int sz), (.ref vb), (.int (0 : Int32)), (.ref t)]))
        obtain ⟨T18, X18, e18, st18⟩ := getF X17 hx hZ hown (host := "") (Or.inl (hw _ (List.mem_of_getElem? (i := 30) rfl))) Via.refl e17 F_a_arity (g := (mkF m 132 #[.val (.ref a), .val (.ref t), .val (.int (15 : Int32)), .val (.int ix)] [(.ref a), (.int sz), (.ref vb), (.int (0 : Int32)), (.ref t)])) rfl rfl (hb hby own_d_prog_7_method_5_code_132)
        refine own_st st18 ?_
        show own_Gl _ _ _ _ _ _ _ (T18.setTop (mkF m 135 #[.val (.ref a), .val (.ref t), .val (.int (15 : Int32)), .val (.int ix)] [(.int (2 : Int32)), (.int sz), (.ref vb), (.int (0 : Int32)), (.ref t)]))
        refine own_st (fun _ k => XS.imul X18.here hx rfl (hb hby own_d_prog_7_method_5_code_135) rfl k) ?_
        show own_Gl _ _ _ _ _ _ _ (T18.setTop (mkF m 136 #[.val (.ref a), .val (.ref t), .val (.int (15 : Int32)), .val (.int ix)] [(.int (sz * (2 : Int32))), (.ref vb), (.int (0 : Int32)), (.ref t)]))
        refine own_st (fun _ k => XS.aloadN X18.here hx rfl (hb hby own_d_prog_7_method_5_code_136) rfl rfl k) ?_
        show own_Gl _ _ _ _ _ _ _ (T18.setTop (mkF m 137 #[.val (.ref a), .val (.ref t), .val (.int (15 : Int32)), .val (.int ix)] [(.ref a), (.int (sz * (2 : Int32))), (.ref vb), (.int (0 : Int32)), (.ref t)]))
        obtain ⟨T19, X19, e19, st19⟩ := getF X18 hx hZ hown (host := "") (Or.inl (hw _ (List.mem_of_getElem? (i := 30) rfl))) Via.refl e18 F_a_arity (g := (mkF m 137 #[.val (.ref a), .val (.ref t), .val (.int (15 : Int32)), .val (.int ix)] [(.ref a), (.int (sz * (2 : Int32))), (.ref vb), (.int (0 : Int32)), (.ref t)])) rfl rfl (hb hby own_d_prog_7_method_5_code_137)
        refine own_st st19 ?_
        show own_Gl _ _ _ _ _ _ _ (T19.setTop (mkF m 140 #[.val (.ref a), .val (.ref t), .val (.int (15 : Int32)), .val (.int ix)] [(.int (2 : Int32)), (.int (sz * (2 : Int32))), (.ref vb), (.int (0 : Int32)), (.ref t)]))
        obtain ⟨T20, h20, L20, X20, e20, N20, K20, Vc20, st20⟩ := cpA X19 hx hZ hown (hw _ (List.mem_of_getElem? (i := 51) rfl)) (hw _ (List.mem_of_getElem? (i := 54) rfl)) (hw _ (List.mem_of_getElem? (i := 52) rfl)) (hw _ (List.mem_of_getElem? (i := 53) rfl)) e19 V_t V_vb (Or.inl ⟨rfl, rfl⟩) (us := [(.int xx), (.int yy)]) (by decide) (own_cpd _ hn).1 (by decide) (by decide) (own_cpd _ hn).2 rfl (by rw [own_fl_len]; exact (own_cpd _ hn).2) N8 g_vb (g := (mkF m 140 #[.val (.ref a), .val (.ref t), .val (.int (15 : Int32)), .val (.int ix)] [(.int (2 : Int32)), (.int (sz * (2 : Int32))), (.ref vb), (.int (0 : Int32)), (.ref t)])) rfl (by rw [hml]; rfl) rfl (hb hby own_d_prog_7_method_5_code_140) (by decide) (W := 0) (by show 2 * 0 + _ ≤ _; exact Nat.le_of_eq rfl) (by decide)
        refine own_st st20 ?_
        have Zs21 : n0 ≤ h20.size := Nat.le_trans Z0 K20.1
        have Vd20 : Arv Z h20 vb kv .int (32 : Int32) (own_fl 32 (fun q => if q = 2 * sz.toNatClampNeg + 1 then yy else if q = 2 * sz.toNatClampNeg then xx else vf q)) (.int (0 : Int32)) := (own_cp vf sz xx yy hn) ▸ Vc20
        show own_Gl _ _ _ _ _ _ _ (T20.setTop (mkF m 143 #[.val (.ref a), .val (.ref t), .val (.int (15 : Int32)), .val (.int ix)] []))
        refine own_st (fun _ k => XS.aloadN X20.here hx rfl (hb hby own_d_prog_7_method_5_code_143) rfl rfl k) ?_
        show own_Gl _ _ _ _ _ _ _ (T20.setTop (mkF m 144 #[.val (.ref a), .val (.ref t), .val (.int (15 : Int32)), .val (.int ix)] [(.ref a)]))
        have f22 := (F_a_rowsByTuple.keep K20 (ninS ne_a_vb nin0))
        obtain ⟨T23, X23, e23, st23⟩ := getF X20 hx hZ hown (host := "") (Or.inl (hw _ (List.mem_of_getElem? (i := 10) rfl))) Via.refl e20 f22 (g := (mkF m 144 #[.val (.ref a), .val (.ref t), .val (.int (15 : Int32)), .val (.int ix)] [(.ref a)])) rfl rfl (hb hby own_d_prog_7_method_5_code_144)
        refine own_st st23 ?_
        show own_Gl _ _ _ _ _ _ _ (T23.setTop (mkF m 147 #[.val (.ref a), .val (.ref t), .val (.int (15 : Int32)), .val (.int ix)] [(.ref rb)]))
        refine own_st (fun _ k => XS.iloadN X23.here hx rfl (hb hby own_d_prog_7_method_5_code_147) rfl k) ?_
        show own_Gl _ _ _ _ _ _ _ (T23.setTop (mkF m 148 #[.val (.ref a), .val (.ref t), .val (.int (15 : Int32)), .val (.int ix)] [(.int ix), (.ref rb)]))
        refine own_st (fun _ k => XS.aloadN X23.here hx rfl (hb hby own_d_prog_7_method_5_code_148) rfl rfl k) ?_
        show own_Gl _ _ _ _ _ _ _ (T23.setTop (mkF m 149 #[.val (.ref a), .val (.ref t), .val (.int (15 : Int32)), .val (.int ix)] [(.ref a), (.int ix), (.ref rb)]))
        have f24 := (F_a_size.keep K20 (ninS ne_a_vb nin0))
        obtain ⟨T25, X25, e25, st25⟩ := getF X23 hx hZ hown (host := "") (Or.inl (hw _ (List.mem_of_getElem? (i := 49) rfl))) Via.refl e23 f24 (g := (mkF m 149 #[.val (.ref a), .val (.ref t), .val (.int (15 : Int32)), .val (.int ix)] [(.ref a), (.int ix), (.ref rb)])) rfl rfl (hb hby own_d_prog_7_method_5_code_149)
        refine own_st st25 ?_
        show own_Gl _ _ _ _ _ _ _ (T25.setTop (mkF m 152 #[.val (.ref a), .val (.ref t), .val (.int (15 : Int32)), .val (.int ix)] [(.int sz), (.int ix), (.ref rb)]))
        refine own_st (fun _ k => XS.iconst X25.here hx rfl (hb hby own_d_prog_7_method_5_code_152) k) ?_
        show own_Gl _ _ _ _ _ _ _ (T25.setTop (mkF m 153 #[.val (.ref a), .val (.ref t), .val (.int (15 : Int32)), .val (.int ix)] [(.int (1 : Int32)), (.int sz), (.int ix), (.ref rb)]))
        refine own_st (fun _ k => XS.iadd X25.here hx rfl (hb hby own_d_prog_7_method_5_code_153) rfl k) ?_
        show own_Gl _ _ _ _ _ _ _ (T25.setTop (mkF m 154 #[.val (.ref a), .val (.ref t), .val (.int (15 : Int32)), .val (.int ix)] [(.int (sz + (1 : Int32))), (.int ix), (.ref rb)]))
        have f26 := (V_rb.keep K20 (ninS ne_rb_vb nin0))
        obtain ⟨cl27, Ar27, qq27, Ss27, Nn27, Hh27, Gg27⟩ := id f26
        have hin27 : ¬ (ix < 0 ∨ cl27.slots.size ≤ (ix).toNatClampNeg) := inb_of Ss27 hix
        obtain ⟨T27, h27, X27, e27, W27, st27⟩ := stI X25 hx hZ e25 Ar27 (j := ix) hin27 (g := (mkF m 154 #[.val (.ref a), .val (.ref t), .val (.int (15 : Int32)), .val (.int ix)] [(.int (sz + (1 : Int32))), (.int ix), (.ref rb)])) rfl rfl (hb hby own_d_prog_7_method_5_code_154)
        have N27 := Fr.snoc X27 N20 g_rb
        refine own_st st27 ?_
        have Zs28 : n0 ≤ h27.size := Nat.le_trans Zs21 (Keep.of_wr W27).1
        have Vv27 := Arv.set Ar27 qq27 Ss27 Nn27 Hh27 Gg27 rfl W27 ix.toNatClampNeg (rfl) (by rw [own_fl_len]; exact own_lt16 hix)
        rw [own_fl_set] at Vv27
        have Vw27 : Arv Z h27 rb kr .int (16 : Int32) (own_fl 16 (fun q => if q = ix.toNatClampNeg then (sz + (1 : Int32)) else rf q)) (.int (0 : Int32)) := Vv27
        show own_Gl _ _ _ _ _ _ _ (T27.setTop (mkF m 155 #[.val (.ref a), .val (.ref t), .val (.int (15 : Int32)), .val (.int ix)] []))
        refine own_st (fun _ k => XS.aloadN X27.here hx rfl (hb hby own_d_prog_7_method_5_code_155) rfl rfl k) ?_
        show own_Gl _ _ _ _ _ _ _ (T27.setTop (mkF m 156 #[.val (.ref a), .val (.ref t), .val (.int (15 : Int32)), .val (.int ix)] [(.ref a)]))
        refine own_st (fun _ k => XS.dup X27.here hx rfl (hb hby own_d_prog_7_method_5_code_156) rfl rfl k) ?_
        show own_Gl _ _ _ _ _ _ _ (T27.setTop (mkF m 157 #[.val (.ref a), .val (.ref t), .val (.int (15 : Int32)), .val (.int ix)] [(.ref a), (.ref a)]))
        have f29 := (f24.other W27 (Or.inl ne_a_rb))
        obtain ⟨T30, X30, e30, st30⟩ := getF X27 hx hZ hown (host := "") (Or.inl (hw _ (List.mem_of_getElem? (i := 49) rfl))) Via.refl e27 f29 (g := (mkF m 157 #[.val (.ref a), .val (.ref t), .val (.int (15 : Int32)), .val (.int ix)] [(.ref a), (.ref a)])) rfl rfl (hb hby own_d_prog_7_method_5_code_157)
        refine own_st st30 ?_
        show own_Gl _ _ _ _ _ _ _ (T30.setTop (mkF m 160 #[.val (.ref a), .val (.ref t), .val (.int (15 : Int32)), .val (.int ix)] [(.int sz), (.ref a)]))
        refine own_st (fun _ k => XS.iconst X30.here hx rfl (hb hby own_d_prog_7_method_5_code_160) k) ?_
        show own_Gl _ _ _ _ _ _ _ (T30.setTop (mkF m 161 #[.val (.ref a), .val (.ref t), .val (.int (15 : Int32)), .val (.int ix)] [(.int (1 : Int32)), (.int sz), (.ref a)]))
        refine own_st (fun _ k => XS.iadd X30.here hx rfl (hb hby own_d_prog_7_method_5_code_161) rfl k) ?_
        show own_Gl _ _ _ _ _ _ _ (T30.setTop (mkF m 162 #[.val (.ref a), .val (.ref t), .val (.int (15 : Int32)), .val (.int ix)] [(.int (sz + (1 : Int32))), (.ref a)]))
        have f31 := ((E_a.keep K20).wr W27)
        obtain ⟨T32, h32, X32, e32, W32, st32⟩ := putF X30 hx hZ hown (host := "") (Or.inl (hw _ (List.mem_of_getElem? (i := 49) rfl))) Via.refl e30 f29 f31 (Or.inl (hw _ (List.mem_of_getElem? (i := 50) rfl))) (hw _ (List.mem_of_getElem? (i := 1) rfl)) (ty := .int) (by decide) rfl rfl (g := (mkF m 162 #[.val (.ref a), .val (.ref t), .val (.int (15 : Int32)), .val (.int ix)] [(.int (sz + (1 : Int32))), (.ref a)])) rfl rfl (hb hby own_d_prog_7_method_5_code_162)
        have N32 := Fr.snoc X32 N27 g_a
        refine own_st st32 ?_
        have Zs33 : n0 ≤ h32.size := Nat.le_trans Zs28 (Keep.of_wr W32).1
        have Fw32 := f29.same W32
        show own_Gl _ _ _ _ _ _ _ (T32.setTop (mkF m 165 #[.val (.ref a), .val (.ref t), .val (.int (15 : Int32)), .val (.int ix)] []))
        refine own_st (fun _ k => XS.aloadN X32.here hx rfl (hb hby own_d_prog_7_method_5_code_165) rfl rfl k) ?_
        show own_Gl _ _ _ _ _ _ _ (T32.setTop (mkF m 166 #[.val (.ref a), .val (.ref t), .val (.int (15 : Int32)), .val (.int ix)] [(.ref a)]))
        have f34 := (((F_a_indexes.keep K20 (ninS ne_a_vb nin0)).other W27 (Or.inl ne_a_rb)).other W32 (Or.inr (slot_ne (Or.inr (hw _ (List.mem_of_getElem? (i := 29) rfl))) (Or.inl (hw _ (List.mem_of_getElem? (i := 50) rfl))) (by decide) (t := (.object "java/util/Map")) (t' := .int) (by decide) (by decide))))
        obtain ⟨T35, X35, e35, st35⟩ := getF X32 hx hZ hown (host := "") (Or.inl (hw _ (List.mem_of_getElem? (i := 28) rfl))) Via.refl e32 f34 (g := (mkF m 166 #[.val (.ref a), .val (.ref t), .val (.int (15 : Int32)), .val (.int ix)] [(.ref a)])) rfl rfl (hb hby own_d_prog_7_method_5_code_166)
        refine own_st st35 ?_
        show own_Gl _ _ _ _ _ _ _ (T35.setTop (mkF m 169 #[.val (.ref a), .val (.ref t), .val (.int (15 : Int32)), .val (.int ix)] [(.ref mp)]))
        have f37 := (((E_mp.keep K20).wr W27).wr W32)
        have f38 := (((F_mp_modCount.keep K20 (ninS ne_mp_vb nin0)).other W27 (Or.inl (Ne.symm ne_rb_mp))).other W32 (Or.inl (Ne.symm ne_a_mp)))
        have f39 := (((F_mp_table.keep K20 (ninS ne_mp_vb nin0)).other W27 (Or.inl (Ne.symm ne_rb_mp))).other W32 (Or.inl (Ne.symm ne_a_mp)))
        have f40 := (f31.wr W32)
        have f41 := (Vw27.other W32 (Ne.symm ne_a_rb))
        have f42 := ((Vd20.other W27 (Ne.symm ne_rb_vb)).other W32 (Ne.symm ne_a_vb))
        have f43 := (((V_t.keep K20 (ninS ne_t_vb nin0)).other W27 ne_t_rb).other W32 (Ne.symm ne_a_t))
        obtain ⟨cq36, kq36, q36a, q36b, q36c⟩ := isOf hZ e35 f37
        obtain ⟨_, _, ⟨T36, L36, k36, n36⟩, -, X36, ⟨Lc36, hQ36, l36, y36, z36⟩, st36⟩ := X35.interfaceBack hx (xi := (⟨"java/util/Map", "clear", "()V"⟩ : MethodName)) (y := (⟨"java/util/HashMap", "clear", "()V"⟩ : MethodName)) hown (mvT hZ (hw _ (List.mem_of_getElem? (i := 55) rfl))) (mvT hZ (hw _ (List.mem_of_getElem? (i := 56) rfl))) (mvT hZ (hw _ (List.mem_of_getElem? (i := 57) rfl))) (mvT hZ (hw _ (List.mem_of_getElem? (i := 58) rfl))) (mvT hZ (hw _ (List.mem_of_getElem? (i := 59) rfl))) (mvT hZ (hw _ (List.mem_of_getElem? (i := 60) rfl))) (mvT hZ (hw _ (List.mem_of_getElem? (i := 61) rfl))) (mvT hZ (hw _ (List.mem_of_getElem? (i := 62) rfl))) (by decide) (backOf (W := 0) (own_clear l Z a0 hw [] mp mc h32 n0 Zs33 f37 f38 f39 g_mp) hZ (hw _ (List.mem_of_getElem? (i := 63) rfl)) (hw _ (List.mem_of_getElem? (i := 14) rfl)) (by decide) (by decide)) q36a q36b q36c (g := (mkF m 169 #[.val (.ref a), .val (.ref t), .val (.int (15 : Int32)), .val (.int ix)] [(.ref mp)])) rfl (by rw [hml]; rfl) (Steps.refl _) (argsL := []) (rest := []) (lenOf own_pd691897 rfl) rfl (by show 2 * 0 + _ ≤ _; exact Nat.le_of_eq rfl) (hb hby own_d_prog_7_method_5_code_169) (fun _ _ => ⟨rfl, e35, (by decide : 0 + 0 ≤ ({ frames := 1, cells := 0, slots := 0, locals := 18 } : Room).cells), (by decide : 0 + 0 ≤ ({ frames := 1, cells := 0, slots := 0, locals := 18 } : Room).slots)⟩)
        dsimp only [Pt.U, Pt.locs, Pt.cells, Pt.slots] at X36 l36 y36 z36 st36 hQ36
        subst l36 y36 z36
        obtain ⟨hh36, eh036⟩ : ∃ z, T36.heap = z := ⟨_, rfl⟩
        rw [eh036] at hQ36
        obtain ⟨rfl, Nq36, Kq36, P36_0, P36_1⟩ := hQ36
        have N36 := Fr.app N32 Nq36
        refine own_tr st36 ?_
        have Zs44 : n0 ≤ hh36.size := Nat.le_trans Zs33 Kq36.1
        show own_Gl _ _ _ _ _ _ _ (T36.setTop (mkF m 174 #[.val (.ref a), .val (.ref t), .val (.int (15 : Int32)), .val (.int ix)] []))
        refine own_st (fun _ k => XS.aloadN X36.here hx rfl (hb hby own_d_prog_7_method_5_code_174) rfl rfl k) ?_
        show own_Gl _ _ _ _ _ _ _ (T36.setTop (mkF m 175 #[.val (.ref a), .val (.ref t), .val (.int (15 : Int32)), .val (.int ix)] [(.ref a)]))
        have f45 := (Fw32.keep Kq36 (ninS ne_a_mp nin0))
        obtain ⟨T46, X46, e46, st46⟩ := getF X36 hx hZ hown (host := "") (Or.inl (hw _ (List.mem_of_getElem? (i := 49) rfl))) Via.refl eh036 f45 (g := (mkF m 175 #[.val (.ref a), .val (.ref t), .val (.int (15 : Int32)), .val (.int ix)] [(.ref a)])) rfl rfl (hb hby own_d_prog_7_method_5_code_175)
        refine own_st st46 ?_
        show own_Gl _ _ _ _ _ _ _ (T46.setTop (mkF m 178 #[.val (.ref a), .val (.ref t), .val (.int (15 : Int32)), .val (.int ix)] [(.int (sz + (1 : Int32)))]))
        refine own_st (fun _ k => XS.iconst X46.here hx rfl (hb hby own_d_prog_7_method_5_code_178) k) ?_
        show own_Gl _ _ _ _ _ _ _ (T46.setTop (mkF m 179 #[.val (.ref a), .val (.ref t), .val (.int (15 : Int32)), .val (.int ix)] [(.int (2 : Int32)), (.int (sz + (1 : Int32)))]))
        refine own_st (fun _ k => XS.imul X46.here hx rfl (hb hby own_d_prog_7_method_5_code_179) rfl k) ?_
        show own_Gl _ _ _ _ _ _ _ (T46.setTop (mkF m 180 #[.val (.ref a), .val (.ref t), .val (.int (15 : Int32)), .val (.int ix)] [(.int ((sz + (1 : Int32)) * (2 : Int32)))]))
        refine own_st (fun _ k => XS.aloadN X46.here hx rfl (hb hby own_d_prog_7_method_5_code_180) rfl rfl k) ?_
        show own_Gl _ _ _ _ _ _ _ (T46.setTop (mkF m 181 #[.val (.ref a), .val (.ref t), .val (.int (15 : Int32)), .val (.int ix)] [(.ref a), (.int ((sz + (1 : Int32)) * (2 : Int32)))]))
        have f47 := (((f22.other W27 (Or.inl ne_a_rb)).other W32 (Or.inr (slot_ne (Or.inl (hw _ (List.mem_of_getElem? (i := 11) rfl))) (Or.inl (hw _ (List.mem_of_getElem? (i := 50) rfl))) (by decide) (t := (.array .int)) (t' := .int) (by decide) (by decide)))).keep Kq36 (ninS ne_a_mp nin0))
        obtain ⟨T48, X48, e48, st48⟩ := getF X46 hx hZ hown (host := "") (Or.inl (hw _ (List.mem_of_getElem? (i := 10) rfl))) Via.refl e46 f47 (g := (mkF m 181 #[.val (.ref a), .val (.ref t), .val (.int (15 : Int32)), .val (.int ix)] [(.ref a), (.int ((sz + (1 : Int32)) * (2 : Int32)))])) rfl rfl (hb hby own_d_prog_7_method_5_code_181)
        refine own_st st48 ?_
        show own_Gl _ _ _ _ _ _ _ (T48.setTop (mkF m 184 #[.val (.ref a), .val (.ref t), .val (.int (15 : Int32)), .val (.int ix)] [(.ref rb), (.int ((sz + (1 : Int32)) * (2 : Int32)))]))
        have f49 := (f41.keep Kq36 (ninS ne_rb_mp nin0))
        obtain ⟨cl50, Ar50, qq50, Ss50, Nn50, Hh50, Gg50⟩ := id f49
        refine own_st (X48.arraylength hx (by rw [e48]; exact Ar50.1) (State.isArrayOf_alike hZ.alike Ar50.2.1) (g := (mkF m 184 #[.val (.ref a), .val (.ref t), .val (.int (15 : Int32)), .val (.int ix)] [(.ref rb), (.int ((sz + (1 : Int32)) * (2 : Int32)))])) rfl rfl (hb hby own_d_prog_7_method_5_code_184)) ?_
        rw [len_of Ss50 Nn50]
        show own_Gl _ _ _ _ _ _ _ (T48.setTop (mkF m 185 #[.val (.ref a), .val (.ref t), .val (.int (15 : Int32)), .val (.int ix)] [(.int (16 : Int32)), (.int ((sz + (1 : Int32)) * (2 : Int32)))]))
        have hd51 : ¬ ((16 : Int32) < ((sz + (1 : Int32)) * (2 : Int32))) := own_capB hn
        refine own_st (fun _ k => XS.icmpYes X48.here hx rfl (pc0 := 185) (pc' := 192) rfl (hb hby own_d_prog_7_method_5_code_185) rfl (flt hd51).2.2.2 (by decide) (by decide) k) ?_
        show own_Gl _ _ _ _ _ _ _ (T48.setTop (mkF m 192 #[.val (.ref a), .val (.ref t), .val (.int (15 : Int32)), .val (.int ix)] []))
        refine own_st (fun _ k => XS.iconst X48.here hx rfl (hb hby own_d_prog_7_method_5_code_192) k) ?_
        show own_Gl _ _ _ _ _ _ _ (T48.setTop (mkF m 193 #[.val (.ref a), .val (.ref t), .val (.int (15 : Int32)), .val (.int ix)] [(.int (1 : Int32))]))
        have K52 : Keep h0 hh36 [a, rb, vb, mp] := (((((Keep.refl h0 [a, rb, vb, mp]).trans K20 (allS (Or.inl (List.mem_of_getElem? (i := 2) rfl)) all0)).wr W27 (Or.inl (List.mem_of_getElem? (i := 1) rfl))).wr W32 (Or.inl (List.mem_of_getElem? (i := 0) rfl))).trans Kq36 (allS (Or.inl (List.mem_of_getElem? (i := 3) rfl)) all0))
        have f53 := (f34.keep Kq36 (ninS ne_a_mp nin0))
        have f54 := ((((F_a_arity.keep K20 (ninS ne_a_vb nin0)).other W27 (Or.inl ne_a_rb)).other W32 (Or.inr (slot_ne (Or.inr (hw _ (List.mem_of_getElem? (i := 31) rfl))) (Or.inl (hw _ (List.mem_of_getElem? (i := 50) rfl))) (by decide) (t := .int) (t' := .int) (by decide) (by decide)))).keep Kq36 (ninS ne_a_mp nin0))
        have f55 := ((((F_a_values.keep K20 (ninS ne_a_vb nin0)).other W27 (Or.inl ne_a_rb)).other W32 (Or.inr (slot_ne (Or.inl (hw _ (List.mem_of_getElem? (i := 37) rfl))) (Or.inl (hw _ (List.mem_of_getElem? (i := 50) rfl))) (by decide) (t := (.array .int)) (t' := .int) (by decide) (by decide)))).keep Kq36 (ninS ne_a_mp nin0))
        have f56 := (f42.keep Kq36 (ninS (Ne.symm ne_mp_vb) nin0))
        exact own_retN X48 hx hlk (t := .boolean) hret (by simp) (hb hby own_d_prog_7_method_5_code_193) e48 ⟨_, _, rfl, N36, K52, f47, f53, f54, f55, f45, f49, f56, P36_0, P36_1, fun q => by rw [hi], fun q => rfl⟩ (by decide) (by decide)
      · refine own_st (fun _ k => XS.ifNo X9.here hx rfl (hb hby own_d_prog_7_method_5_code_54) rfl ((if0 _ _).trans (feq hc54).1) k) ?_
        show own_Gl _ _ _ _ _ _ _ (T9.setTop (mkF m 57 #[.val (.ref a), .val (.ref t), .val (.int (15 : Int32)), .val (.int ix)] []))
        refine own_st (fun _ k => XS.aloadN X9.here hx rfl (hb hby own_d_prog_7_method_5_code_57) rfl rfl k) ?_
        show own_Gl _ _ _ _ _ _ _ (T9.setTop (mkF m 58 #[.val (.ref a), .val (.ref t), .val (.int (15 : Int32)), .val (.int ix)] [(.ref a)]))
        refine own_st (fun _ k => XS.aloadN X9.here hx rfl (hb hby own_d_prog_7_method_5_code_58) rfl rfl k) ?_
        show own_Gl _ _ _ _ _ _ _ (T9.setTop (mkF m 59 #[.val (.ref a), .val (.ref t), .val (.int (15 : Int32)), .val (.int ix)] [(.ref a), (.ref a)]))
        obtain ⟨T57, X57, e57, st57⟩ := getF X9 hx hZ hown (host := "") (Or.inl (hw _ (List.mem_of_getElem? (i := 10) rfl))) Via.refl e9 F_a_rowsByTuple (g := (mkF m 59 #[.val (.ref a), .val (.ref t), .val (.int (15 : Int32)), .val (.int ix)] [(.ref a), (.ref a)])) rfl rfl (hb hby own_d_prog_7_method_5_code_59)
        refine own_st st57 ?_
        show own_Gl _ _ _ _ _ _ _ (T57.setTop (mkF m 62 #[.val (.ref a), .val (.ref t), .val (.int (15 : Int32)), .val (.int ix)] [(.ref rb), (.ref a)]))
        refine own_st (fun _ k => XS.iloadN X57.here hx rfl (hb hby own_d_prog_7_method_5_code_62) rfl k) ?_
        show own_Gl _ _ _ _ _ _ _ (T57.setTop (mkF m 63 #[.val (.ref a), .val (.ref t), .val (.int (15 : Int32)), .val (.int ix)] [(.int ix), (.ref rb), (.ref a)]))
        obtain ⟨cl58, Ar58, qq58, Ss58, Nn58, Hh58, Gg58⟩ := id V_rb
        have hin58 : ¬ (ix < 0 ∨ cl58.slots.size ≤ (ix).toNatClampNeg) := inb_of Ss58 hix
        have hat58 : cl58.slots[(ix).toNatClampNeg]? = some (.int (rf ix.toNatClampNeg)) := Hh58.at hin58 (own_fl_get _ _ _ _ (own_lt16 hix))
        refine own_st (X57.iaload hx (j := ix) (v := (.int (rf ix.toNatClampNeg))) (by rw [e57]; exact Ar58.1) (State.isArrayOf_alike hZ.alike Ar58.2.1) Ar58.2.2 hin58 hat58 (g := (mkF m 63 #[.val (.ref a), .val (.ref t), .val (.int (15 : Int32)), .val (.int ix)] [(.int ix), (.ref rb), (.ref a)])) rfl rfl (hb hby own_d_prog_7_method_5_code_63)) ?_
        show own_Gl _ _ _ _ _ _ _ (T57.setTop (mkF m 64 #[.val (.ref a), .val (.ref t), .val (.int (15 : Int32)), .val (.int ix)] [(.int (rf ix.toNatClampNeg)), (.ref a)]))
        refine own_st (fun _ k => XS.iconst X57.here hx rfl (hb hby own_d_prog_7_method_5_code_64) k) ?_
        show own_Gl _ _ _ _ _ _ _ (T57.setTop (mkF m 65 #[.val (.ref a), .val (.ref t), .val (.int (15 : Int32)), .val (.int ix)] [(.int (1 : Int32)), (.int (rf ix.toNatClampNeg)), (.ref a)]))
        refine own_st (fun _ k => XS.isub X57.here hx rfl (hb hby own_d_prog_7_method_5_code_65) rfl k) ?_
        show own_Gl _ _ _ _ _ _ _ (T57.setTop (mkF m 66 #[.val (.ref a), .val (.ref t), .val (.int (15 : Int32)), .val (.int ix)] [(.int ((rf ix.toNatClampNeg) - (1 : Int32))), (.ref a)]))
        refine own_st (fun _ k => XS.aloadN X57.here hx rfl (hb hby own_d_prog_7_method_5_code_66) rfl rfl k) ?_
        show own_Gl _ _ _ _ _ _ _ (T57.setTop (mkF m 67 #[.val (.ref a), .val (.ref t), .val (.int (15 : Int32)), .val (.int ix)] [(.ref t), (.int ((rf ix.toNatClampNeg) - (1 : Int32))), (.ref a)]))
        obtain ⟨cq59, q59, qq59⟩ := E_a.cell
        obtain ⟨_, _, ⟨T59, L59, k59, n59⟩, -, X59, ⟨Lc59, hQ59, l59, y59, z59⟩, st59⟩ := X57.privateBack hx (y := (⟨"com/example/lehti/lehti/eval/Relation", "rowEquals", "(I[I)Z"⟩ : MethodName)) hown (mvT hZ (hw _ (List.mem_of_getElem? (i := 68) rfl))) (mvT hZ (hw _ (List.mem_of_getElem? (i := 69) rfl))) (own_selpriv hZ (hw _ (List.mem_of_getElem? (i := 1) rfl)) (hw _ (List.mem_of_getElem? (i := 70) rfl)) (hw _ (List.mem_of_getElem? (i := 69) rfl)) (by decide)) (Cond.privateMethod_at (mvP hZ (hw _ (List.mem_of_getElem? (i := 70) rfl)) (args := #[]))) (mvT hZ (hw _ (List.mem_of_getElem? (i := 71) rfl))) (by decide) (backOf (W := 0) (own_rreq l Z a0 hw [] a ((rf ix.toNatClampNeg) - (1 : Int32)) t vb kv kt vf xx yy h0 n0 Z0 F_a_arity F_a_values V_vb V_t (own_r1 (hrf _) hc54)) hZ (hw _ (List.mem_of_getElem? (i := 71) rfl)) (hw _ (List.mem_of_getElem? (i := 2) rfl)) (by decide) (by decide)) (g := (mkF m 67 #[.val (.ref a), .val (.ref t), .val (.int (15 : Int32)), .val (.int ix)] [(.ref t), (.int ((rf ix.toNatClampNeg) - (1 : Int32))), (.ref a)])) rfl (by rw [hml]; rfl) (Steps.refl _) (a := a) (by rw [e57]; exact q59) qq59 (argsL := [(.int ((rf ix.toNatClampNeg) - (1 : Int32))), (.ref t)]) (rest := []) (lenOf own_pd883914768 rfl) rfl (by show 2 * 0 + _ ≤ _; exact Nat.le_of_eq rfl) (hb hby own_d_prog_7_method_5_code_67) (fun _ _ => ⟨rfl, e57, (by decide : 0 + 0 ≤ ({ frames := 1, cells := 0, slots := 0, locals := 18 } : Room).cells), (by decide : 0 + 0 ≤ ({ frames := 1, cells := 0, slots := 0, locals := 18 } : Room).slots)⟩)
        dsimp only [Pt.U, Pt.locs, Pt.cells, Pt.slots] at X59 l59 y59 z59 st59 hQ59
        subst l59 y59 z59
        obtain ⟨hh59, eh059⟩ : ∃ z, T59.heap = z := ⟨_, rfl⟩
        rw [eh059] at hQ59
        obtain ⟨rfl, Nq59, eh59⟩ := hQ59
        have N59 := Fr.app N8 Nq59
        refine own_tr st59 ?_
        have e59 : T59.heap = h0 := eh059.trans eh59
        show own_Gl _ _ _ _ _ _ _ (T59.setTop (mkF m 70 #[.val (.ref a), .val (.ref t), .val (.int (15 : Int32)), .val (.int ix)] [(.int (own_req vf ((rf ix.toNatClampNeg) - (1 : Int32)).toNatClampNeg xx yy))]))
        by_cases hc70 : (own_req vf ((rf ix.toNatClampNeg) - (1 : Int32)).toNatClampNeg xx yy) = (0 : Int32)
        · have hf2 := hf
          rw [if_neg hc54, if_pos hc70] at hf2
          refine own_st (fun _ k => XS.ifYes X59.here hx rfl (pc0 := 70) (pc' := 75) rfl (hb hby own_d_prog_7_method_5_code_70) rfl ((if0 _ _).trans (teq hc70).1) (by decide) (by decide) k) ?_
          show own_Gl _ _ _ _ _ _ _ (T59.setTop (mkF m 75 #[.val (.ref a), .val (.ref t), .val (.int (15 : Int32)), .val (.int ix)] []))
          refine own_st (fun _ k => XS.iloadN X59.here hx rfl (hb hby own_d_prog_7_method_5_code_75) rfl k) ?_
          show own_Gl _ _ _ _ _ _ _ (T59.setTop (mkF m 76 #[.val (.ref a), .val (.ref t), .val (.int (15 : Int32)), .val (.int ix)] [(.int ix)]))
          refine own_st (fun _ k => XS.iconst X59.here hx rfl (hb hby own_d_prog_7_method_5_code_76) k) ?_
          show own_Gl _ _ _ _ _ _ _ (T59.setTop (mkF m 77 #[.val (.ref a), .val (.ref t), .val (.int (15 : Int32)), .val (.int ix)] [(.int (1 : Int32)), (.int ix)]))
          refine own_st (fun _ k => XS.iadd X59.here hx rfl (hb hby own_d_prog_7_method_5_code_77) rfl k) ?_
          show own_Gl _ _ _ _ _ _ _ (T59.setTop (mkF m 78 #[.val (.ref a), .val (.ref t), .val (.int (15 : Int32)), .val (.int ix)] [(.int (ix + (1 : Int32)))]))
          refine own_st (fun _ k => XS.iloadN X59.here hx rfl (hb hby own_d_prog_7_method_5_code_78) rfl k) ?_
          show own_Gl _ _ _ _ _ _ _ (T59.setTop (mkF m 79 #[.val (.ref a), .val (.ref t), .val (.int (15 : Int32)), .val (.int ix)] [(.int (15 : Int32)), (.int (ix + (1 : Int32)))]))
          refine own_st (fun _ k => XS.iand X59.here hx rfl (hb hby own_d_prog_7_method_5_code_79) rfl k) ?_
          show own_Gl _ _ _ _ _ _ _ (T59.setTop (mkF m 80 #[.val (.ref a), .val (.ref t), .val (.int (15 : Int32)), .val (.int ix)] [(.int ((ix + (1 : Int32)) &&& (15 : Int32)))]))
          refine own_st (fun _ k => XS.istoreN X59.here hx rfl (hb hby own_d_prog_7_method_5_code_80) rfl (l' := #[.val (.ref a), .val (.ref t), .val (.int (15 : Int32)), .val (.int ((ix + (1 : Int32)) &&& (15 : Int32)))]) rfl k) ?_
          show own_Gl _ _ _ _ _ _ _ (T59.setTop (mkF m 81 #[.val (.ref a), .val (.ref t), .val (.int (15 : Int32)), .val (.int ((ix + (1 : Int32)) &&& (15 : Int32)))] []))
          refine own_st (fun _ k => XS.goto X59.here hx rfl (pc0 := 81) (pc' := 48) rfl (hb hby own_d_prog_7_method_5_code_81) (by decide) (by decide) k) ?_
          show own_Gl _ _ _ _ _ _ _ (T59.setTop (mkF m 48 #[.val (.ref a), .val (.ref t), .val (.int (15 : Int32)), .val (.int ((ix + (1 : Int32)) &&& (15 : Int32)))] []))
          show own_Gl _ _ _ _ _ _ _ (T59.setTop (mkF m 48 #[.val (.ref a), .val (.ref t), .val (.int (15 : Int32)), .val (.int ((ix + (1 : Int32)) &&& (15 : Int32)))] []))
          exact ih8 _ (by omega) T59 _ N59 X59 e59 (fq) (((ix + (1 : Int32)) &&& (15 : Int32))) (own_m15 _) (by rw [own_nx _ hix]; exact hf2) rfl
        · rw [if_neg hc54, if_neg hc70] at hf
          cases hf
  show own_Gl _ _ _ _ _ _ _ (T7.setTop (mkF m 48 #[.val (.ref a), .val (.ref t), .val (.int (15 : Int32)), .val (.int ((own_hash xx yy) &&& (15 : Int32)))] []))
  exact J48_8 _ T7 _ N7 X7 e7 (16) (((own_hash xx yy) &&& (15 : Int32))) (own_m15 _) hfind rfl
theorem own_d_prog_7_method_5_code_73 : decode prog_7_method_5_code 73 = .ok (.iconst 0, 1) := by decide +kernel
theorem own_d_prog_7_method_5_code_74 : decode prog_7_method_5_code 74 = .ok (.ireturn, 1) := by decide +kernel
theorem own_ef_own_add_dup (m : MethodId) (x0 : Addr) (x1 : Addr) : entryFrame m #[(.ref x0), (.ref x1)] 4 = mkF m 0 #[.val (.ref x0), .val (.ref x1), .unset, .unset] [] := by first | (simp [entryFrame, mkF, argsToLocals, Value.category]; done) | rfl
def own_Q_own_add_dup (Z : State) (a : Addr) (t : Addr) (rb : Addr) (mp : Addr) (vb : Addr) (kr : ClassId) (kv : ClassId) (kt : ClassId) (rf : Nat → Int32) (vf : Nat → Int32) (xx : Int32) (yy : Int32) (sz : Int32) (mc : Int32) (h0 : Heap) (n0 : Nat) (v : Option Value) (h : Heap) (L : List Loc) : Prop := (v = some (.int (0 : Int32))) ∧ (Fr n0 L) ∧ (h = h0)
set_option maxRecDepth 65536 in
set_option maxHeartbeats 40000000 in
theorem own_add_dup (l : Launch) (Z : State) (a0 : Array Value) (hw : ∀ d ∈ tables_1, d.before a0 Z = true) (ws : List Jvm.Cond) (a : Addr) (t : Addr) (rb : Addr) (mp : Addr) (vb : Addr) (kr : ClassId) (kv : ClassId) (kt : ClassId) (rf : Nat → Int32) (vf : Nat → Int32) (xx : Int32) (yy : Int32) (sz : Int32) (mc : Int32) (h0 : Heap) (n0 : Nat) (Z0 : n0 ≤ h0.size) (E_a : Exa Z h0 a "com/example/lehti/lehti/eval/Relation") (F_a_rowsByTuple : Fld Z h0 a "com/example/lehti/lehti/eval/Relation" "rowsByTuple" "[I" (.ref rb)) (F_a_indexes : Fld Z h0 a "com/example/lehti/lehti/eval/Relation" "indexes" "Ljava/util/Map;" (.ref mp)) (F_a_arity : Fld Z h0 a "com/example/lehti/lehti/eval/Relation" "arity" "I" (.int (2 : Int32))) (F_a_values : Fld Z h0 a "com/example/lehti/lehti/eval/Relation" "values" "[I" (.ref vb)) (F_a_size : Fld Z h0 a "com/example/lehti/lehti/eval/Relation" "size" "I" (.int sz)) (V_rb : Arv Z h0 rb kr .int (16 : Int32) (own_fl 16 rf) (.int (0 : Int32))) (V_vb : Arv Z h0 vb kv .int (32 : Int32) (own_fl 32 vf) (.int (0 : Int32))) (V_t : Arv Z h0 t kt .int (2 : Int32) [(.int xx), (.int yy)] (.int (0 : Int32))) (E_mp : Exa Z h0 mp "java/util/HashMap") (F_mp_modCount : Fld Z h0 mp "java/util/HashMap" "modCount" "I" (.int mc)) (F_mp_table : Fld Z h0 mp "java/util/HashMap" "table" "[Ljava/util/HashMap$Node;" .null) (g_a : n0 ≤ a) (g_rb : n0 ≤ rb) (g_mp : n0 ≤ mp) (g_vb : n0 ≤ vb) (ne_a_t : a ≠ t) (ne_a_rb : a ≠ rb) (ne_a_mp : a ≠ mp) (ne_a_vb : a ≠ vb) (ne_t_rb : t ≠ rb) (ne_t_mp : t ≠ mp) (ne_t_vb : t ≠ vb) (ne_rb_mp : rb ≠ mp) (ne_rb_vb : rb ≠ vb) (ne_mp_vb : mp ≠ vb) (hn : sz = (0 : Int32) ∨ sz = (1 : Int32) ∨ sz = (2 : Int32)) (hrf : ∀ q, rf q = (0 : Int32) ∨ rf q = (1 : Int32) ∨ rf q = (2 : Int32)) (hfind : own_find rf vf xx yy 16 (own_h xx yy) = some none) :
    MetFree l (⟨"com/example/lehti/lehti/eval/Relation", "add", "([I)Z"⟩ : MethodName) (head1 (Jvm.Cond.code (⟨"com/example/lehti/lehti/eval/Relation", "add", "([I)Z"⟩ : MethodName) prog_7_method_5_code 4 (some .boolean) :: ws) ({ frames := 1, cells := 0, slots := 0, locals := 16 } : Room)) (fun xa xU => xa = #[(.ref a), (.ref t)] ∧ Z.Warmed39 xU.vm ∧ xU.heap = h0) (fun _ _ _ _ _ => True) (fun _ xU xo xV => ∃ v L, xo = .returned v ∧ own_Q_own_add_dup Z a t rb mp vb kr kv kt rf vf xx yy sz mc h0 n0 v xV.heap L ∧ FrameEnd xU xo xV L ({ frames := 1, cells := 0, slots := 0, locals := 16 } : Room).cells ({ frames := 1, cells := 0, slots := 0, locals := 16 } : Room).slots) := by
  refine MetFree.of_bodySF (plainFor_of_name own_pn798614349) hisR ?_
  intro p e s m args below meth c s₁ Bd hml0 hP hK
  obtain ⟨rfl, hZ, hh⟩ := hP
  have hx := Bd.exec
  have hby := Bd.bytes
  have hlk := Bd.notSynchronized
  have hret := Bd.returns
  have hml : c.maxLocals = 4 := hml0
  have hown : s.vm.findClass "com/example/lehti/lehti/eval/Relation" = some m.cls := findClass_of_methodNamed Bd.named
  have hnm := (name_of_methodNamed Bd.named Bd.method).1
  have X0 : Stand p l e ({ frames := 1, cells := 0, slots := 0, locals := 16 } : Room) s m #[(.ref a), (.ref t)] below meth c s₁ [] 0 0 := Stand.of_body Bd
  have e0 : s₁.heap = h0 := by rw [← hh, Bd.state]; rfl
  have N0 := Fr.nil n0
  show own_Gl p e below s (own_Q_own_add_dup Z a t rb mp vb kr kv kt rf vf xx yy sz mc h0 n0) ({ frames := 1, cells := 0, slots := 0, locals := 16 } : Room).cells ({ frames := 1, cells := 0, slots := 0, locals := 16 } : Room).slots _
  refine own_cast (own_ef_own_add_dup m a t) ?_
  show own_Gl _ _ _ _ _ _ _ (s₁.setTop (mkF m 0 #[.val (.ref a), .val (.ref t), .unset, .unset] []))
  refine own_st (fun _ k => XS.aloadN X0.here hx rfl (hb hby own_d_prog_7_method_5_code_0) rfl rfl k) ?_
  show own_Gl _ _ _ _ _ _ _ (s₁.setTop (mkF m 1 #[.val (.ref a), .val (.ref t), .unset, .unset] [(.ref t)]))
  obtain ⟨cl1, Ar1, qq1, Ss1, Nn1, Hh1, Gg1⟩ := id V_t
  refine own_st (X0.arraylength hx (by rw [e0]; exact Ar1.1) (State.isArrayOf_alike hZ.alike Ar1.2.1) (g := (mkF m 1 #[.val (.ref a), .val (.ref t), .unset, .unset] [(.ref t)])) rfl rfl (hb hby own_d_prog_7_method_5_code_1)) ?_
  rw [len_of Ss1 Nn1]
  show own_Gl _ _ _ _ _ _ _ (s₁.setTop (mkF m 2 #[.val (.ref a), .val (.ref t), .unset, .unset] [(.int (2 : Int32))]))
  refine own_st (fun _ k => XS.aloadN X0.here hx rfl (hb hby own_d_prog_7_method_5_code_2) rfl rfl k) ?_
  show own_Gl _ _ _ _ _ _ _ (s₁.setTop (mkF m 3 #[.val (.ref a), .val (.ref t), .unset, .unset] [(.ref a), (.int (2 : Int32))]))
  obtain ⟨T2, X2, e2, st2⟩ := getF X0 hx hZ hown (host := "") (Or.inl (hw _ (List.mem_of_getElem? (i := 30) rfl))) Via.refl e0 F_a_arity (g := (mkF m 3 #[.val (.ref a), .val (.ref t), .unset, .unset] [(.ref a), (.int (2 : Int32))])) rfl rfl (hb hby own_d_prog_7_method_5_code_3)
  refine own_st st2 ?_
  show own_Gl _ _ _ _ _ _ _ (T2.setTop (mkF m 6 #[.val (.ref a), .val (.ref t), .unset, .unset] [(.int (2 : Int32)), (.int (2 : Int32))]))
  have hd3 : (2 : Int32) = (2 : Int32) := (by decide)
  refine own_st (fun _ k => XS.icmpYes X2.here hx rfl (pc0 := 6) (pc' := 28) rfl (hb hby own_d_prog_7_method_5_code_6) rfl (teq hd3).1 (by decide) (by decide) k) ?_
  show own_Gl _ _ _ _ _ _ _ (T2.setTop (mkF m 28 #[.val (.ref a), .val (.ref t), .unset, .unset] []))
  refine own_st (fun _ k => XS.aloadN X2.here hx rfl (hb hby own_d_prog_7_method_5_code_28) rfl rfl k) ?_
  show own_Gl _ _ _ _ _ _ _ (T2.setTop (mkF m 29 #[.val (.ref a), .val (.ref t), .unset, .unset] [(.ref a)]))
  obtain ⟨T4, X4, e4, st4⟩ := getF X2 hx hZ hown (host := "") (Or.inl (hw _ (List.mem_of_getElem? (i := 10) rfl))) Via.refl e2 F_a_rowsByTuple (g := (mkF m 29 #[.val (.ref a), .val (.ref t), .unset, .unset] [(.ref a)])) rfl rfl (hb hby own_d_prog_7_method_5_code_29)
  refine own_st st4 ?_
  show own_Gl _ _ _ _ _ _ _ (T4.setTop (mkF m 32 #[.val (.ref a), .val (.ref t), .unset, .unset] [(.ref rb)]))
  obtain ⟨cl5, Ar5, qq5, Ss5, Nn5, Hh5, Gg5⟩ := id V_rb
  refine own_st (X4.arraylength hx (by rw [e4]; exact Ar5.1) (State.isArrayOf_alike hZ.alike Ar5.2.1) (g := (mkF m 32 #[.val (.ref a), .val (.ref t), .unset, .unset] [(.ref rb)])) rfl rfl (hb hby own_d_prog_7_method_5_code_32)) ?_
  rw [len_of Ss5 Nn5]
  show own_Gl _ _ _ _ _ _ _ (T4.setTop (mkF m 33 #[.val (.ref a), .val (.ref t), .unset, .unset] [(.int (16 : Int32))]))
  refine own_st (fun _ k => XS.iconst X4.here hx rfl (hb hby own_d_prog_7_method_5_code_33) k) ?_
  show own_Gl _ _ _ _ _ _ _ (T4.setTop (mkF m 34 #[.val (.ref a), .val (.ref t), .unset, .unset] [(.int (1 : Int32)), (.int (16 : Int32))]))
  refine own_st (fun _ k => XS.isub X4.here hx rfl (hb hby own_d_prog_7_method_5_code_34) rfl k) ?_
  show own_Gl _ _ _ _ _ _ _ (T4.setTop (mkF m 35 #[.val (.ref a), .val (.ref t), .unset, .unset] [(.int (15 : Int32))]))
  refine own_st (fun _ k => XS.istoreN X4.here hx rfl (hb hby own_d_prog_7_method_5_code_35) rfl (l' := #[.val (.ref a), .val (.ref t), .val (.int (15 : Int32)), .unset]) rfl k) ?_
  show own_Gl _ _ _ _ _ _ _ (T4.setTop (mkF m 36 #[.val (.ref a), .val (.ref t), .val (.int (15 : Int32)), .unset] []))
  refine own_st (fun _ k => XS.aloadN X4.here hx rfl (hb hby own_d_prog_7_method_5_code_36) rfl rfl k) ?_
  show own_Gl _ _ _ _ _ _ _ (T4.setTop (mkF m 37 #[.val (.ref a), .val (.ref t), .val (.int (15 : Int32)), .unset] [(.ref t)]))
  refine own_st (fun _ k => XS.iconst X4.here hx rfl (hb hby own_d_prog_7_method_5_code_37) k) ?_
  show own_Gl _ _ _ _ _ _ _ (T4.setTop (mkF m 38 #[.val (.ref a), .val (.ref t), .val (.int (15 : Int32)), .unset] [(.int (0 : Int32)), (.ref t)]))
  refine own_st (fun _ k => XS.aloadN X4.here hx rfl (hb hby own_d_prog_7_method_5_code_38) rfl rfl k) ?_
  show own_Gl _ _ _ _ _ _ _ (T4.setTop (mkF m 39 #[.val (.ref a), .val (.ref t), .val (.int (15 : Int32)), .unset] [(.ref a), (.int (0 : Int32)), (.ref t)]))
  obtain ⟨T6, X6, e6, st6⟩ := getF X4 hx hZ hown (host := "") (Or.inl (hw _ (List.mem_of_getElem? (i := 30) rfl))) Via.refl e4 F_a_arity (g := (mkF m 39 #[.val (.ref a), .val (.ref t), .val (.int (15 : Int32)), .unset] [(.ref a), (.int (0 : Int32)), (.ref t)])) rfl rfl (hb hby own_d_prog_7_method_5_code_39)
  refine own_st st6 ?_
  show own_Gl _ _ _ _ _ _ _ (T6.setTop (mkF m 42 #[.val (.ref a), .val (.ref t), .val (.int (15 : Int32)), .unset] [(.int (2 : Int32)), (.int (0 : Int32)), (.ref t)]))
  obtain ⟨_, _, ⟨T7, L7, k7, n7⟩, -, X7, ⟨Lc7, hQ7, l7, y7, z7⟩, st7⟩ := Jvm.LawKit.callS X6 hx (y := (⟨"com/example/lehti/lehti/eval/Relation", "hash", "([III)I"⟩ : MethodName)) hown (mvT hZ (hw _ (List.mem_of_getElem? (i := 43) rfl))) (mvT hZ (hw _ (List.mem_of_getElem? (i := 44) rfl))) (mvT hZ (hw _ (List.mem_of_getElem? (i := 2) rfl))) (mvT hZ (hw _ (List.mem_of_getElem? (i := 45) rfl))) (by decide) (backOf (W := 0) (own_rhash l Z a0 hw [] t kt xx yy h0 n0 Z0 V_t) hZ (hw _ (List.mem_of_getElem? (i := 45) rfl)) (hw _ (List.mem_of_getElem? (i := 2) rfl)) (by decide) (by decide)) (g := (mkF m 42 #[.val (.ref a), .val (.ref t), .val (.int (15 : Int32)), .unset] [(.int (2 : Int32)), (.int (0 : Int32)), (.ref t)])) rfl (by rw [hml]; rfl) (argsL := [(.ref t), (.int (0 : Int32)), (.int (2 : Int32))]) (rest := []) (lenOf own_pd923192554 rfl) rfl (by show 2 * 0 + _ ≤ _; exact Nat.le_of_eq rfl) (hb hby own_d_prog_7_method_5_code_42) (fun _ _ => ⟨rfl, e6, (by decide : 0 + 0 ≤ ({ frames := 1, cells := 0, slots := 0, locals := 16 } : Room).cells), (by decide : 0 + 0 ≤ ({ frames := 1, cells := 0, slots := 0, locals := 16 } : Room).slots)⟩)
  dsimp only [Pt.U, Pt.locs, Pt.cells, Pt.slots] at X7 l7 y7 z7 st7 hQ7
  subst l7 y7 z7
  obtain ⟨hh7, eh07⟩ : ∃ z, T7.heap = z := ⟨_, rfl⟩
  rw [eh07] at hQ7
  obtain ⟨rfl, Nq7, eh7⟩ := hQ7
  have N7 := Fr.app N0 Nq7
  refine own_st st7 ?_
  have e7 : T7.heap = h0 := eh07.trans eh7
  show own_Gl _ _ _ _ _ _ _ (T7.setTop (mkF m 45 #[.val (.ref a), .val (.ref t), .val (.int (15 : Int32)), .unset] [(.int (own_hash xx yy))]))
  refine own_st (fun _ k => XS.iloadN X7.here hx rfl (hb hby own_d_prog_7_method_5_code_45) rfl k) ?_
  show own_Gl _ _ _ _ _ _ _ (T7.setTop (mkF m 46 #[.val (.ref a), .val (.ref t), .val (.int (15 : Int32)), .unset] [(.int (15 : Int32)), (.int (own_hash xx yy))]))
  refine own_st (fun _ k => XS.iand X7.here hx rfl (hb hby own_d_prog_7_method_5_code_46) rfl k) ?_
  show own_Gl _ _ _ _ _ _ _ (T7.setTop (mkF m 47 #[.val (.ref a), .val (.ref t), .val (.int (15 : Int32)), .unset] [(.int ((own_hash xx yy) &&& (15 : Int32)))]))
  refine own_st (fun _ k => XS.istoreN X7.here hx rfl (hb hby own_d_prog_7_method_5_code_47) rfl (l' := #[.val (.ref a), .val (.ref t), .val (.int (15 : Int32)), .val (.int ((own_hash xx yy) &&& (15 : Int32)))]) rfl k) ?_
  show own_Gl _ _ _ _ _ _ _ (T7.setTop (mkF m 48 #[.val (.ref a), .val (.ref t), .val (.int (15 : Int32)), .val (.int ((own_hash xx yy) &&& (15 : Int32)))] []))
  have J48_8 : ∀ (k8 : Nat) (T8 : State) (LL8 : List Loc) (N8 : Fr n0 LL8) (X8 : Stand p l e ({ frames := 1, cells := 0, slots := 0, locals := 16 } : Room) s m #[(.ref a), (.ref t)] below meth c T8 LL8 0 0) (e8 : T8.heap = h0) (fu : Nat) (ix : Int32) (hix : ¬ ix < 0 ∧ ix < (16 : Int32)) (hf : own_find rf vf xx yy fu ix.toNatClampNeg = some none) (hk8 : fu = k8), own_Gl p e below s (own_Q_own_add_dup Z a t rb mp vb kr kv kt rf vf xx yy sz mc h0 n0) ({ frames := 1, cells := 0, slots := 0, locals := 16 } : Room).cells ({ frames := 1, cells := 0, slots := 0, locals := 16 } : Room).slots (T8.setTop (mkF m 48 #[.val (.ref a), .val (.ref t), .val (.int (15 : Int32)), .val (.int ix)] [])) := by
    intro k8
    induction k8 using Nat.strongRecOn with
    | _ k8 ih8 =>
      intro T8 LL8 N8 X8 e8 fu ix hix hf hk8
      show own_Gl _ _ _ _ _ _ _ (T8.setTop (mkF m 48 #[.val (.ref a), .val (.ref t), .val (.int (15 : Int32)), .val (.int ix)] []))
      obtain ⟨fq, rfl⟩ : ∃ q, fu = q + 1 := by
        cases fu with
        | zero => cases hf
        | succ q => exact ⟨q, rfl⟩
      rw [own_find_succ] at hf
      refine own_st (fun _ k => XS.aloadN X8.here hx rfl (hb hby own_d_prog_7_method_5_code_48) rfl rfl k) ?_
      show own_Gl _ _ _ _ _ _ _ (T8.setTop (mkF m 49 #[.val (.ref a), .val (.ref t), .val (.int (15 : Int32)), .val (.int ix)] [(.ref a)]))
      obtain ⟨T9, X9, e9, st9⟩ := getF X8 hx hZ hown (host := "") (Or.inl (hw _ (List.mem_of_getElem? (i := 10) rfl))) Via.refl e8 F_a_rowsByTuple (g := (mkF m 49 #[.val (.ref a), .val (.ref t), .val (.int (15 : Int32)), .val (.int ix)] [(.ref a)])) rfl rfl (hb hby own_d_prog_7_method_5_code_49)
      refine own_st st9 ?_
      show own_Gl _ _ _ _ _ _ _ (T9.setTop (mkF m 52 #[.val (.ref a), .val (.ref t), .val (.int (15 : Int32)), .val (.int ix)] [(.ref rb)]))
      refine own_st (fun _ k => XS.iloadN X9.here hx rfl (hb hby own_d_prog_7_method_5_code_52) rfl k) ?_
      show own_Gl _ _ _ _ _ _ _ (T9.setTop (mkF m 53 #[.val (.ref a), .val (.ref t), .val (.int (15 : Int32)), .val (.int ix)] [(.int ix), (.ref rb)]))
      obtain ⟨cl10, Ar10, qq10, Ss10, Nn10, Hh10, Gg10⟩ := id V_rb
      have hin10 : ¬ (ix < 0 ∨ cl10.slots.size ≤ (ix).toNatClampNeg) := inb_of Ss10 hix
      have hat10 : cl10.slots[(ix).toNatClampNeg]? = some (.int (rf ix.toNatClampNeg)) := Hh10.at hin10 (own_fl_get _ _ _ _ (own_lt16 hix))
      refine own_st (X9.iaload hx (j := ix) (v := (.int (rf ix.toNatClampNeg))) (by rw [e9]; exact Ar10.1) (State.isArrayOf_alike hZ.alike Ar10.2.1) Ar10.2.2 hin10 hat10 (g := (mkF m 53 #[.val (.ref a), .val (.ref t), .val (.int (15 : Int32)), .val (.int ix)] [(.int ix), (.ref rb)])) rfl rfl (hb hby own_d_prog_7_method_5_code_53)) ?_
      show own_Gl _ _ _ _ _ _ _ (T9.setTop (mkF m 54 #[.val (.ref a), .val (.ref t), .val (.int (15 : Int32)), .val (.int ix)] [(.int (rf ix.toNatClampNeg))]))
      by_cases hc54 : (rf ix.toNatClampNeg) = (0 : Int32)
      · rw [if_pos hc54] at hf
        cases hf
      · refine own_st (fun _ k => XS.ifNo X9.here hx rfl (hb hby own_d_prog_7_method_5_code_54) rfl ((if0 _ _).trans (feq hc54).1) k) ?_
        show own_Gl _ _ _ _ _ _ _ (T9.setTop (mkF m 57 #[.val (.ref a), .val (.ref t), .val (.int (15 : Int32)), .val (.int ix)] []))
        refine own_st (fun _ k => XS.aloadN X9.here hx rfl (hb hby own_d_prog_7_method_5_code_57) rfl rfl k) ?_
        show own_Gl _ _ _ _ _ _ _ (T9.setTop (mkF m 58 #[.val (.ref a), .val (.ref t), .val (.int (15 : Int32)), .val (.int ix)] [(.ref a)]))
        refine own_st (fun _ k => XS.aloadN X9.here hx rfl (hb hby own_d_prog_7_method_5_code_58) rfl rfl k) ?_
        show own_Gl _ _ _ _ _ _ _ (T9.setTop (mkF m 59 #[.val (.ref a), .val (.ref t), .val (.int (15 : Int32)), .val (.int ix)] [(.ref a), (.ref a)]))
        obtain ⟨T11, X11, e11, st11⟩ := getF X9 hx hZ hown (host := "") (Or.inl (hw _ (List.mem_of_getElem? (i := 10) rfl))) Via.refl e9 F_a_rowsByTuple (g := (mkF m 59 #[.val (.ref a), .val (.ref t), .val (.int (15 : Int32)), .val (.int ix)] [(.ref a), (.ref a)])) rfl rfl (hb hby own_d_prog_7_method_5_code_59)
        refine own_st st11 ?_
        show own_Gl _ _ _ _ _ _ _ (T11.setTop (mkF m 62 #[.val (.ref a), .val (.ref t), .val (.int (15 : Int32)), .val (.int ix)] [(.ref rb), (.ref a)]))
        refine own_st (fun _ k => XS.iloadN X11.here hx rfl (hb hby own_d_prog_7_method_5_code_62) rfl k) ?_
        show own_Gl _ _ _ _ _ _ _ (T11.setTop (mkF m 63 #[.val (.ref a), .val (.ref t), .val (.int (15 : Int32)), .val (.int ix)] [(.int ix), (.ref rb), (.ref a)]))
        obtain ⟨cl12, Ar12, qq12, Ss12, Nn12, Hh12, Gg12⟩ := id V_rb
        have hin12 : ¬ (ix < 0 ∨ cl12.slots.size ≤ (ix).toNatClampNeg) := inb_of Ss12 hix
        have hat12 : cl12.slots[(ix).toNatClampNeg]? = some (.int (rf ix.toNatClampNeg)) := Hh12.at hin12 (own_fl_get _ _ _ _ (own_lt16 hix))
        refine own_st (X11.iaload hx (j := ix) (v := (.int (rf ix.toNatClampNeg))) (by rw [e11]; exact Ar12.1) (State.isArrayOf_alike hZ.alike Ar12.2.1) Ar12.2.2 hin12 hat12 (g := (mkF m 63 #[.val (.ref a), .val (.ref t), .val (.int (15 : Int32)), .val (.int ix)] [(.int ix), (.ref rb), (.ref a)])) rfl rfl (hb hby own_d_prog_7_method_5_code_63)) ?_
        show own_Gl _ _ _ _ _ _ _ (T11.setTop (mkF m 64 #[.val (.ref a), .val (.ref t), .val (.int (15 : Int32)), .val (.int ix)] [(.int (rf ix.toNatClampNeg)), (.ref a)]))
        refine own_st (fun _ k => XS.iconst X11.here hx rfl (hb hby own_d_prog_7_method_5_code_64) k) ?_
        show own_Gl _ _ _ _ _ _ _ (T11.setTop (mkF m 65 #[.val (.ref a), .val (.ref t), .val (.int (15 : Int32)), .val (.int ix)] [(.int (1 : Int32)), (.int (rf ix.toNatClampNeg)), (.ref a)]))
        refine own_st (fun _ k => XS.isub X11.here hx rfl (hb hby own_d_prog_7_method_5_code_65) rfl k) ?_
        show own_Gl _ _ _ _ _ _ _ (T11.setTop (mkF m 66 #[.val (.ref a), .val (.ref t), .val (.int (15 : Int32)), .val (.int ix)] [(.int ((rf ix.toNatClampNeg) - (1 : Int32))), (.ref a)]))
        refine own_st (fun _ k => XS.aloadN X11.here hx rfl (hb hby own_d_prog_7_method_5_code_66) rfl rfl k) ?_
        show own_Gl _ _ _ _ _ _ _ (T11.setTop (mkF m 67 #[.val (.ref a), .val (.ref t), .val (.int (15 : Int32)), .val (.int ix)] [(.ref t), (.int ((rf ix.toNatClampNeg) - (1 : Int32))), (.ref a)]))
        obtain ⟨cq13, q13, qq13⟩ := E_a.cell
        obtain ⟨_, _, ⟨T13, L13, k13, n13⟩, -, X13, ⟨Lc13, hQ13, l13, y13, z13⟩, st13⟩ := X11.privateBack hx (y := (⟨"com/example/lehti/lehti/eval/Relation", "rowEquals", "(I[I)Z"⟩ : MethodName)) hown (mvT hZ (hw _ (List.mem_of_getElem? (i := 68) rfl))) (mvT hZ (hw _ (List.mem_of_getElem? (i := 69) rfl))) (own_selpriv hZ (hw _ (List.mem_of_getElem? (i := 1) rfl)) (hw _ (List.mem_of_getElem? (i := 70) rfl)) (hw _ (List.mem_of_getElem? (i := 69) rfl)) (by decide)) (Cond.privateMethod_at (mvP hZ (hw _ (List.mem_of_getElem? (i := 70) rfl)) (args := #[]))) (mvT hZ (hw _ (List.mem_of_getElem? (i := 71) rfl))) (by decide) (backOf (W := 0) (own_rreq l Z a0 hw [] a ((rf ix.toNatClampNeg) - (1 : Int32)) t vb kv kt vf xx yy h0 n0 Z0 F_a_arity F_a_values V_vb V_t (own_r1 (hrf _) hc54)) hZ (hw _ (List.mem_of_getElem? (i := 71) rfl)) (hw _ (List.mem_of_getElem? (i := 2) rfl)) (by decide) (by decide)) (g := (mkF m 67 #[.val (.ref a), .val (.ref t), .val (.int (15 : Int32)), .val (.int ix)] [(.ref t), (.int ((rf ix.toNatClampNeg) - (1 : Int32))), (.ref a)])) rfl (by rw [hml]; rfl) (Steps.refl _) (a := a) (by rw [e11]; exact q13) qq13 (argsL := [(.int ((rf ix.toNatClampNeg) - (1 : Int32))), (.ref t)]) (rest := []) (lenOf own_pd883914768 rfl) rfl (by show 2 * 0 + _ ≤ _; exact Nat.le_of_eq rfl) (hb hby own_d_prog_7_method_5_code_67) (fun _ _ => ⟨rfl, e11, (by decide : 0 + 0 ≤ ({ frames := 1, cells := 0, slots := 0, locals := 16 } : Room).cells), (by decide : 0 + 0 ≤ ({ frames := 1, cells := 0, slots := 0, locals := 16 } : Room).slots)⟩)
        dsimp only [Pt.U, Pt.locs, Pt.cells, Pt.slots] at X13 l13 y13 z13 st13 hQ13
        subst l13 y13 z13
        obtain ⟨hh13, eh013⟩ : ∃ z, T13.heap = z := ⟨_, rfl⟩
        rw [eh013] at hQ13
        obtain ⟨rfl, Nq13, eh13⟩ := hQ13
        have N13 := Fr.app N8 Nq13
        refine own_tr st13 ?_
        have e13 : T13.heap = h0 := eh013.trans eh13
        show own_Gl _ _ _ _ _ _ _ (T13.setTop (mkF m 70 #[.val (.ref a), .val (.ref t), .val (.int (15 : Int32)), .val (.int ix)] [(.int (own_req vf ((rf ix.toNatClampNeg) - (1 : Int32)).toNatClampNeg xx yy))]))
        by_cases hc70 : (own_req vf ((rf ix.toNatClampNeg) - (1 : Int32)).toNatClampNeg xx yy) = (0 : Int32)
        · have hf2 := hf
          rw [if_neg hc54, if_pos hc70] at hf2
          refine own_st (fun _ k => XS.ifYes X13.here hx rfl (pc0 := 70) (pc' := 75) rfl (hb hby own_d_prog_7_method_5_code_70) rfl ((if0 _ _).trans (teq hc70).1) (by decide) (by decide) k) ?_
          show own_Gl _ _ _ _ _ _ _ (T13.setTop (mkF m 75 #[.val (.ref a), .val (.ref t), .val (.int (15 : Int32)), .val (.int ix)] []))
          refine own_st (fun _ k => XS.iloadN X13.here hx rfl (hb hby own_d_prog_7_method_5_code_75) rfl k) ?_
          show own_Gl _ _ _ _ _ _ _ (T13.setTop (mkF m 76 #[.val (.ref a), .val (.ref t), .val (.int (15 : Int32)), .val (.int ix)] [(.int ix)]))
          refine own_st (fun _ k => XS.iconst X13.here hx rfl (hb hby own_d_prog_7_method_5_code_76) k) ?_
          show own_Gl _ _ _ _ _ _ _ (T13.setTop (mkF m 77 #[.val (.ref a), .val (.ref t), .val (.int (15 : Int32)), .val (.int ix)] [(.int (1 : Int32)), (.int ix)]))
          refine own_st (fun _ k => XS.iadd X13.here hx rfl (hb hby own_d_prog_7_method_5_code_77) rfl k) ?_
          show own_Gl _ _ _ _ _ _ _ (T13.setTop (mkF m 78 #[.val (.ref a), .val (.ref t), .val (.int (15 : Int32)), .val (.int ix)] [(.int (ix + (1 : Int32)))]))
          refine own_st (fun _ k => XS.iloadN X13.here hx rfl (hb hby own_d_prog_7_method_5_code_78) rfl k) ?_
          show own_Gl _ _ _ _ _ _ _ (T13.setTop (mkF m 79 #[.val (.ref a), .val (.ref t), .val (.int (15 : Int32)), .val (.int ix)] [(.int (15 : Int32)), (.int (ix + (1 : Int32)))]))
          refine own_st (fun _ k => XS.iand X13.here hx rfl (hb hby own_d_prog_7_method_5_code_79) rfl k) ?_
          show own_Gl _ _ _ _ _ _ _ (T13.setTop (mkF m 80 #[.val (.ref a), .val (.ref t), .val (.int (15 : Int32)), .val (.int ix)] [(.int ((ix + (1 : Int32)) &&& (15 : Int32)))]))
          refine own_st (fun _ k => XS.istoreN X13.here hx rfl (hb hby own_d_prog_7_method_5_code_80) rfl (l' := #[.val (.ref a), .val (.ref t), .val (.int (15 : Int32)), .val (.int ((ix + (1 : Int32)) &&& (15 : Int32)))]) rfl k) ?_
          show own_Gl _ _ _ _ _ _ _ (T13.setTop (mkF m 81 #[.val (.ref a), .val (.ref t), .val (.int (15 : Int32)), .val (.int ((ix + (1 : Int32)) &&& (15 : Int32)))] []))
          refine own_st (fun _ k => XS.goto X13.here hx rfl (pc0 := 81) (pc' := 48) rfl (hb hby own_d_prog_7_method_5_code_81) (by decide) (by decide) k) ?_
          show own_Gl _ _ _ _ _ _ _ (T13.setTop (mkF m 48 #[.val (.ref a), .val (.ref t), .val (.int (15 : Int32)), .val (.int ((ix + (1 : Int32)) &&& (15 : Int32)))] []))
          show own_Gl _ _ _ _ _ _ _ (T13.setTop (mkF m 48 #[.val (.ref a), .val (.ref t), .val (.int (15 : Int32)), .val (.int ((ix + (1 : Int32)) &&& (15 : Int32)))] []))
          exact ih8 _ (by omega) T13 _ N13 X13 e13 (fq) (((ix + (1 : Int32)) &&& (15 : Int32))) (own_m15 _) (by rw [own_nx _ hix]; exact hf2) rfl
        · rw [if_neg hc54, if_neg hc70] at hf
          refine own_st (fun _ k => XS.ifNo X13.here hx rfl (hb hby own_d_prog_7_method_5_code_70) rfl ((if0 _ _).trans (feq hc70).1) k) ?_
          show own_Gl _ _ _ _ _ _ _ (T13.setTop (mkF m 73 #[.val (.ref a), .val (.ref t), .val (.int (15 : Int32)), .val (.int ix)] []))
          refine own_st (fun _ k => XS.iconst X13.here hx rfl (hb hby own_d_prog_7_method_5_code_73) k) ?_
          show own_Gl _ _ _ _ _ _ _ (T13.setTop (mkF m 74 #[.val (.ref a), .val (.ref t), .val (.int (15 : Int32)), .val (.int ix)] [(.int (0 : Int32))]))
          exact own_retN X13 hx hlk (t := .boolean) hret (by simp) (hb hby own_d_prog_7_method_5_code_74) e13 ⟨rfl, N13, rfl⟩ (by decide) (by decide)
  show own_Gl _ _ _ _ _ _ _ (T7.setTop (mkF m 48 #[.val (.ref a), .val (.ref t), .val (.int (15 : Int32)), .val (.int ((own_hash xx yy) &&& (15 : Int32)))] []))
  exact J48_8 _ T7 _ N7 X7 e7 (16) (((own_hash xx yy) &&& (15 : Int32))) (own_m15 _) hfind rfl
theorem own_d_prog_7_method_3_code_0 : decode prog_7_method_3_code 0 = .ok (.aload_n 0, 1) := by decide +kernel
theorem own_d_prog_7_method_3_code_1 : decode prog_7_method_3_code 1 = .ok (.getfield 33, 3) := by decide +kernel
theorem own_d_prog_7_method_3_code_4 : decode prog_7_method_3_code 4 = .ok (.ireturn, 1) := by decide +kernel
theorem own_ef_own_rsize (m : MethodId) (x0 : Addr) : entryFrame m #[(.ref x0)] 1 = mkF m 0 #[.val (.ref x0)] [] := by first | (simp [entryFrame, mkF, argsToLocals, Value.category]; done) | rfl
def own_Q_own_rsize (Z : State) (a : Addr) (sz : Int32) (h0 : Heap) (n0 : Nat) (v : Option Value) (h : Heap) (L : List Loc) : Prop := (v = some (.int sz)) ∧ (Fr n0 L) ∧ (h = h0)
set_option maxRecDepth 65536 in
set_option maxHeartbeats 40000000 in
theorem own_rsize (l : Launch) (Z : State) (a0 : Array Value) (hw : ∀ d ∈ tables_1, d.before a0 Z = true) (ws : List Jvm.Cond) (a : Addr) (sz : Int32) (h0 : Heap) (n0 : Nat) (Z0 : n0 ≤ h0.size) (F_a_size : Fld Z h0 a "com/example/lehti/lehti/eval/Relation" "size" "I" (.int sz)) :
    MetFree l (⟨"com/example/lehti/lehti/eval/Relation", "size", "()I"⟩ : MethodName) (head1 (Jvm.Cond.code (⟨"com/example/lehti/lehti/eval/Relation", "size", "()I"⟩ : MethodName) prog_7_method_3_code 1 (some .int) :: ws) ({ frames := 0, cells := 0, slots := 0, locals := 0 } : Room)) (fun xa xU => xa = #[(.ref a)] ∧ Z.Warmed39 xU.vm ∧ xU.heap = h0) (fun _ _ _ _ _ => True) (fun _ xU xo xV => ∃ v L, xo = .returned v ∧ own_Q_own_rsize Z a sz h0 n0 v xV.heap L ∧ FrameEnd xU xo xV L ({ frames := 0, cells := 0, slots := 0, locals := 0 } : Room).cells ({ frames := 0, cells := 0, slots := 0, locals := 0 } : Room).slots) := by
  refine MetFree.of_bodySF (plainFor_of_name own_pn798614349) hisR ?_
  intro p e s m args below meth c s₁ Bd hml0 hP hK
  obtain ⟨rfl, hZ, hh⟩ := hP
  have hx := Bd.exec
  have hby := Bd.bytes
  have hlk := Bd.notSynchronized
  have hret := Bd.returns
  have hml : c.maxLocals = 1 := hml0
  have hown : s.vm.findClass "com/example/lehti/lehti/eval/Relation" = some m.cls := findClass_of_methodNamed Bd.named
  have hnm := (name_of_methodNamed Bd.named Bd.method).1
  have X0 : Stand p l e ({ frames := 0, cells := 0, slots := 0, locals := 0 } : Room) s m #[(.ref a)] below meth c s₁ [] 0 0 := Stand.of_body Bd
  have e0 : s₁.heap = h0 := by rw [← hh, Bd.state]; rfl
  have N0 := Fr.nil n0
  show own_Gl p e below s (own_Q_own_rsize Z a sz h0 n0) ({ frames := 0, cells := 0, slots := 0, locals := 0 } : Room).cells ({ frames := 0, cells := 0, slots := 0, locals := 0 } : Room).slots _
  refine own_cast (own_ef_own_rsize m a) ?_
  show own_Gl _ _ _ _ _ _ _ (s₁.setTop (mkF m 0 #[.val (.ref a)] []))
  refine own_st (fun _ k => XS.aloadN X0.here hx rfl (hb hby own_d_prog_7_method_3_code_0) rfl rfl k) ?_
  show own_Gl _ _ _ _ _ _ _ (s₁.setTop (mkF m 1 #[.val (.ref a)] [(.ref a)]))
  obtain ⟨T1, X1, e1, st1⟩ := getF X0 hx hZ hown (host := "") (Or.inl (hw _ (List.mem_of_getElem? (i := 49) rfl))) Via.refl e0 F_a_size (g := (mkF m 1 #[.val (.ref a)] [(.ref a)])) rfl rfl (hb hby own_d_prog_7_method_3_code_1)
  refine own_st st1 ?_
  show own_Gl _ _ _ _ _ _ _ (T1.setTop (mkF m 4 #[.val (.ref a)] [(.int sz)]))
  exact own_retI X1 hx hlk hret (hb hby own_d_prog_7_method_3_code_4) e1 ⟨rfl, N0, rfl⟩ (by decide) (by decide)
theorem own_d_prog_7_method_4_code_0 : decode prog_7_method_4_code 0 = .ok (.iload_n 1, 1) := by decide +kernel
theorem own_d_prog_7_method_4_code_1 : decode prog_7_method_4_code 1 = .ok (.ifCond .lt 23, 3) := by decide +kernel
theorem own_d_prog_7_method_4_code_4 : decode prog_7_method_4_code 4 = .ok (.iload_n 1, 1) := by decide +kernel
theorem own_d_prog_7_method_4_code_5 : decode prog_7_method_4_code 5 = .ok (.aload_n 0, 1) := by decide +kernel
theorem own_d_prog_7_method_4_code_6 : decode prog_7_method_4_code 6 = .ok (.getfield 33, 3) := by decide +kernel
theorem own_d_prog_7_method_4_code_9 : decode prog_7_method_4_code 9 = .ok (.if_icmp .ge 15, 3) := by decide +kernel
theorem own_d_prog_7_method_4_code_12 : decode prog_7_method_4_code 12 = .ok (.iload_n 2, 1) := by decide +kernel
theorem own_d_prog_7_method_4_code_13 : decode prog_7_method_4_code 13 = .ok (.ifCond .lt 11, 3) := by decide +kernel
theorem own_d_prog_7_method_4_code_16 : decode prog_7_method_4_code 16 = .ok (.iload_n 2, 1) := by decide +kernel
theorem own_d_prog_7_method_4_code_17 : decode prog_7_method_4_code 17 = .ok (.aload_n 0, 1) := by decide +kernel
theorem own_d_prog_7_method_4_code_18 : decode prog_7_method_4_code 18 = .ok (.getfield 20, 3) := by decide +kernel
theorem own_d_prog_7_method_4_code_21 : decode prog_7_method_4_code 21 = .ok (.if_icmp .lt 18, 3) := by decide +kernel
theorem own_d_prog_7_method_4_code_39 : decode prog_7_method_4_code 39 = .ok (.aload_n 0, 1) := by decide +kernel
theorem own_d_prog_7_method_4_code_40 : decode prog_7_method_4_code 40 = .ok (.getfield 30, 3) := by decide +kernel
theorem own_d_prog_7_method_4_code_43 : decode prog_7_method_4_code 43 = .ok (.iload_n 1, 1) := by decide +kernel
theorem own_d_prog_7_method_4_code_44 : decode prog_7_method_4_code 44 = .ok (.aload_n 0, 1) := by decide +kernel
theorem own_d_prog_7_method_4_code_45 : decode prog_7_method_4_code 45 = .ok (.getfield 20, 3) := by decide +kernel
theorem own_d_prog_7_method_4_code_48 : decode prog_7_method_4_code 48 = .ok (.imul, 1) := by decide +kernel
theorem own_d_prog_7_method_4_code_49 : decode prog_7_method_4_code 49 = .ok (.iload_n 2, 1) := by decide +kernel
theorem own_d_prog_7_method_4_code_50 : decode prog_7_method_4_code 50 = .ok (.iadd, 1) := by decide +kernel
theorem own_d_prog_7_method_4_code_51 : decode prog_7_method_4_code 51 = .ok (.iaload, 1) := by decide +kernel
theorem own_d_prog_7_method_4_code_52 : decode prog_7_method_4_code 52 = .ok (.ireturn, 1) := by decide +kernel
theorem own_ef_own_rget (m : MethodId) (x0 : Addr) (x1 : Int32) (x2 : Int32) : entryFrame m #[(.ref x0), (.int x1), (.int x2)] 3 = mkF m 0 #[.val (.ref x0), .val (.int x1), .val (.int x2)] [] := by first | (simp [entryFrame, mkF, argsToLocals, Value.category]; done) | rfl
def own_Q_own_rget (Z : State) (a : Addr) (pr : Int32) (pk : Int32) (sz : Int32) (vb : Addr) (kv : ClassId) (vf : Nat → Int32) (h0 : Heap) (n0 : Nat) (v : Option Value) (h : Heap) (L : List Loc) : Prop := (v = some (.int (vf (2 * pr.toNatClampNeg + pk.toNatClampNeg)))) ∧ (Fr n0 L) ∧ (h = h0)
set_option maxRecDepth 65536 in
set_option maxHeartbeats 40000000 in
theorem own_rget (l : Launch) (Z : State) (a0 : Array Value) (hw : ∀ d ∈ tables_1, d.before a0 Z = true) (ws : List Jvm.Cond) (a : Addr) (pr : Int32) (pk : Int32) (sz : Int32) (vb : Addr) (kv : ClassId) (vf : Nat → Int32) (h0 : Heap) (n0 : Nat) (Z0 : n0 ≤ h0.size) (F_a_size : Fld Z h0 a "com/example/lehti/lehti/eval/Relation" "size" "I" (.int sz)) (F_a_arity : Fld Z h0 a "com/example/lehti/lehti/eval/Relation" "arity" "I" (.int (2 : Int32))) (F_a_values : Fld Z h0 a "com/example/lehti/lehti/eval/Relation" "values" "[I" (.ref vb)) (V_vb : Arv Z h0 vb kv .int (32 : Int32) (own_fl 32 vf) (.int (0 : Int32))) (hr : ¬ pr < 0 ∧ pr < sz) (hr2 : ¬ pr < 0 ∧ pr < (16 : Int32)) (hk : pk = (0 : Int32) ∨ pk = (1 : Int32)) :
    MetFree l (⟨"com/example/lehti/lehti/eval/Relation", "get", "(II)I"⟩ : MethodName) (head1 (Jvm.Cond.code (⟨"com/example/lehti/lehti/eval/Relation", "get", "(II)I"⟩ : MethodName) prog_7_method_4_code 3 (some .int) :: ws) ({ frames := 0, cells := 0, slots := 0, locals := 0 } : Room)) (fun xa xU => xa = #[(.ref a), (.int pr), (.int pk)] ∧ Z.Warmed39 xU.vm ∧ xU.heap = h0) (fun _ _ _ _ _ => True) (fun _ xU xo xV => ∃ v L, xo = .returned v ∧ own_Q_own_rget Z a pr pk sz vb kv vf h0 n0 v xV.heap L ∧ FrameEnd xU xo xV L ({ frames := 0, cells := 0, slots := 0, locals := 0 } : Room).cells ({ frames := 0, cells := 0, slots := 0, locals := 0 } : Room).slots) := by
  refine MetFree.of_bodySF (plainFor_of_name own_pn798614349) hisR ?_
  intro p e s m args below meth c s₁ Bd hml0 hP hK
  obtain ⟨rfl, hZ, hh⟩ := hP
  have hx := Bd.exec
  have hby := Bd.bytes
  have hlk := Bd.notSynchronized
  have hret := Bd.returns
  have hml : c.maxLocals = 3 := hml0
  have hown : s.vm.findClass "com/example/lehti/lehti/eval/Relation" = some m.cls := findClass_of_methodNamed Bd.named
  have hnm := (name_of_methodNamed Bd.named Bd.method).1
  have X0 : Stand p l e ({ frames := 0, cells := 0, slots := 0, locals := 0 } : Room) s m #[(.ref a), (.int pr), (.int pk)] below meth c s₁ [] 0 0 := Stand.of_body Bd
  have e0 : s₁.heap = h0 := by rw [← hh, Bd.state]; rfl
  have N0 := Fr.nil n0
  show own_Gl p e below s (own_Q_own_rget Z a pr pk sz vb kv vf h0 n0) ({ frames := 0, cells := 0, slots := 0, locals := 0 } : Room).cells ({ frames := 0, cells := 0, slots := 0, locals := 0 } : Room).slots _
  refine own_cast (own_ef_own_rget m a pr pk) ?_
  show own_Gl _ _ _ _ _ _ _ (s₁.setTop (mkF m 0 #[.val (.ref a), .val (.int pr), .val (.int pk)] []))
  refine own_st (fun _ k => XS.iloadN X0.here hx rfl (hb hby own_d_prog_7_method_4_code_0) rfl k) ?_
  show own_Gl _ _ _ _ _ _ _ (s₁.setTop (mkF m 1 #[.val (.ref a), .val (.int pr), .val (.int pk)] [(.int pr)]))
  have hd1 : ¬ (pr < (0 : Int32)) := hr.1
  refine own_st (fun _ k => XS.ifNo X0.here hx rfl (hb hby own_d_prog_7_method_4_code_1) rfl ((if0 _ _).trans (flt hd1).1) k) ?_
  show own_Gl _ _ _ _ _ _ _ (s₁.setTop (mkF m 4 #[.val (.ref a), .val (.int pr), .val (.int pk)] []))
  refine own_st (fun _ k => XS.iloadN X0.here hx rfl (hb hby own_d_prog_7_method_4_code_4) rfl k) ?_
  show own_Gl _ _ _ _ _ _ _ (s₁.setTop (mkF m 5 #[.val (.ref a), .val (.int pr), .val (.int pk)] [(.int pr)]))
  refine own_st (fun _ k => XS.aloadN X0.here hx rfl (hb hby own_d_prog_7_method_4_code_5) rfl rfl k) ?_
  show own_Gl _ _ _ _ _ _ _ (s₁.setTop (mkF m 6 #[.val (.ref a), .val (.int pr), .val (.int pk)] [(.ref a), (.int pr)]))
  obtain ⟨T2, X2, e2, st2⟩ := getF X0 hx hZ hown (host := "") (Or.inl (hw _ (List.mem_of_getElem? (i := 49) rfl))) Via.refl e0 F_a_size (g := (mkF m 6 #[.val (.ref a), .val (.int pr), .val (.int pk)] [(.ref a), (.int pr)])) rfl rfl (hb hby own_d_prog_7_method_4_code_6)
  refine own_st st2 ?_
  show own_Gl _ _ _ _ _ _ _ (T2.setTop (mkF m 9 #[.val (.ref a), .val (.int pr), .val (.int pk)] [(.int sz), (.int pr)]))
  have hd3 : pr < sz := hr.2
  refine own_st (fun _ k => XS.icmpNo X2.here hx rfl (hb hby own_d_prog_7_method_4_code_9) rfl (tlt hd3).2.1 k) ?_
  show own_Gl _ _ _ _ _ _ _ (T2.setTop (mkF m 12 #[.val (.ref a), .val (.int pr), .val (.int pk)] []))
  refine own_st (fun _ k => XS.iloadN X2.here hx rfl (hb hby own_d_prog_7_method_4_code_12) rfl k) ?_
  show own_Gl _ _ _ _ _ _ _ (T2.setTop (mkF m 13 #[.val (.ref a), .val (.int pr), .val (.int pk)] [(.int pk)]))
  have hd4 : ¬ (pk < (0 : Int32)) := (own_colb hk).1
  refine own_st (fun _ k => XS.ifNo X2.here hx rfl (hb hby own_d_prog_7_method_4_code_13) rfl ((if0 _ _).trans (flt hd4).1) k) ?_
  show own_Gl _ _ _ _ _ _ _ (T2.setTop (mkF m 16 #[.val (.ref a), .val (.int pr), .val (.int pk)] []))
  refine own_st (fun _ k => XS.iloadN X2.here hx rfl (hb hby own_d_prog_7_method_4_code_16) rfl k) ?_
  show own_Gl _ _ _ _ _ _ _ (T2.setTop (mkF m 17 #[.val (.ref a), .val (.int pr), .val (.int pk)] [(.int pk)]))
  refine own_st (fun _ k => XS.aloadN X2.here hx rfl (hb hby own_d_prog_7_method_4_code_17) rfl rfl k) ?_
  show own_Gl _ _ _ _ _ _ _ (T2.setTop (mkF m 18 #[.val (.ref a), .val (.int pr), .val (.int pk)] [(.ref a), (.int pk)]))
  obtain ⟨T5, X5, e5, st5⟩ := getF X2 hx hZ hown (host := "") (Or.inl (hw _ (List.mem_of_getElem? (i := 30) rfl))) Via.refl e2 F_a_arity (g := (mkF m 18 #[.val (.ref a), .val (.int pr), .val (.int pk)] [(.ref a), (.int pk)])) rfl rfl (hb hby own_d_prog_7_method_4_code_18)
  refine own_st st5 ?_
  show own_Gl _ _ _ _ _ _ _ (T5.setTop (mkF m 21 #[.val (.ref a), .val (.int pr), .val (.int pk)] [(.int (2 : Int32)), (.int pk)]))
  have hd6 : pk < (2 : Int32) := (own_colb hk).2
  refine own_st (fun _ k => XS.icmpYes X5.here hx rfl (pc0 := 21) (pc' := 39) rfl (hb hby own_d_prog_7_method_4_code_21) rfl (tlt hd6).1 (by decide) (by decide) k) ?_
  show own_Gl _ _ _ _ _ _ _ (T5.setTop (mkF m 39 #[.val (.ref a), .val (.int pr), .val (.int pk)] []))
  refine own_st (fun _ k => XS.aloadN X5.here hx rfl (hb hby own_d_prog_7_method_4_code_39) rfl rfl k) ?_
  show own_Gl _ _ _ _ _ _ _ (T5.setTop (mkF m 40 #[.val (.ref a), .val (.int pr), .val (.int pk)] [(.ref a)]))
  obtain ⟨T7, X7, e7, st7⟩ := getF X5 hx hZ hown (host := "") (Or.inl (hw _ (List.mem_of_getElem? (i := 36) rfl))) Via.refl e5 F_a_values (g := (mkF m 40 #[.val (.ref a), .val (.int pr), .val (.int pk)] [(.ref a)])) rfl rfl (hb hby own_d_prog_7_method_4_code_40)
  refine own_st st7 ?_
  show own_Gl _ _ _ _ _ _ _ (T7.setTop (mkF m 43 #[.val (.ref a), .val (.int pr), .val (.int pk)] [(.ref vb)]))
  refine own_st (fun _ k => XS.iloadN X7.here hx rfl (hb hby own_d_prog_7_method_4_code_43) rfl k) ?_
  show own_Gl _ _ _ _ _ _ _ (T7.setTop (mkF m 44 #[.val (.ref a), .val (.int pr), .val (.int pk)] [(.int pr), (.ref vb)]))
  refine own_st (fun _ k => XS.aloadN X7.here hx rfl (hb hby own_d_prog_7_method_4_code_44) rfl rfl k) ?_
  show own_Gl _ _ _ _ _ _ _ (T7.setTop (mkF m 45 #[.val (.ref a), .val (.int pr), .val (.int pk)] [(.ref a), (.int pr), (.ref vb)]))
  obtain ⟨T8, X8, e8, st8⟩ := getF X7 hx hZ hown (host := "") (Or.inl (hw _ (List.mem_of_getElem? (i := 30) rfl))) Via.refl e7 F_a_arity (g := (mkF m 45 #[.val (.ref a), .val (.int pr), .val (.int pk)] [(.ref a), (.int pr), (.ref vb)])) rfl rfl (hb hby own_d_prog_7_method_4_code_45)
  refine own_st st8 ?_
  show own_Gl _ _ _ _ _ _ _ (T8.setTop (mkF m 48 #[.val (.ref a), .val (.int pr), .val (.int pk)] [(.int (2 : Int32)), (.int pr), (.ref vb)]))
  refine own_st (fun _ k => XS.imul X8.here hx rfl (hb hby own_d_prog_7_method_4_code_48) rfl k) ?_
  show own_Gl _ _ _ _ _ _ _ (T8.setTop (mkF m 49 #[.val (.ref a), .val (.int pr), .val (.int pk)] [(.int (pr * (2 : Int32))), (.ref vb)]))
  refine own_st (fun _ k => XS.iloadN X8.here hx rfl (hb hby own_d_prog_7_method_4_code_49) rfl k) ?_
  show own_Gl _ _ _ _ _ _ _ (T8.setTop (mkF m 50 #[.val (.ref a), .val (.int pr), .val (.int pk)] [(.int pk), (.int (pr * (2 : Int32))), (.ref vb)]))
  refine own_st (fun _ k => XS.iadd X8.here hx rfl (hb hby own_d_prog_7_method_4_code_50) rfl k) ?_
  show own_Gl _ _ _ _ _ _ _ (T8.setTop (mkF m 51 #[.val (.ref a), .val (.int pr), .val (.int pk)] [(.int ((pr * (2 : Int32)) + pk)), (.ref vb)]))
  obtain ⟨cl9, Ar9, qq9, Ss9, Nn9, Hh9, Gg9⟩ := id V_vb
  have hin9 : ¬ (((pr * (2 : Int32)) + pk) < 0 ∨ cl9.slots.size ≤ (((pr * (2 : Int32)) + pk)).toNatClampNeg) := inb_of Ss9 (own_ix pr pk hr2 hk).1
  have hat9 : cl9.slots[(((pr * (2 : Int32)) + pk)).toNatClampNeg]? = some (.int (vf (2 * pr.toNatClampNeg + pk.toNatClampNeg))) := Hh9.at hin9 (own_atx vf pr pk hr2 hk _)
  refine own_st (X8.iaload hx (j := ((pr * (2 : Int32)) + pk)) (v := (.int (vf (2 * pr.toNatClampNeg + pk.toNatClampNeg)))) (by rw [e8]; exact Ar9.1) (State.isArrayOf_alike hZ.alike Ar9.2.1) Ar9.2.2 hin9 hat9 (g := (mkF m 51 #[.val (.ref a), .val (.int pr), .val (.int pk)] [(.int ((pr * (2 : Int32)) + pk)), (.ref vb)])) rfl rfl (hb hby own_d_prog_7_method_4_code_51)) ?_
  show own_Gl _ _ _ _ _ _ _ (T8.setTop (mkF m 52 #[.val (.ref a), .val (.int pr), .val (.int pk)] [(.int (vf (2 * pr.toNatClampNeg + pk.toNatClampNeg)))]))
  exact own_retI X8 hx hlk hret (hb hby own_d_prog_7_method_4_code_52) e8 ⟨rfl, N0, rfl⟩ (by decide) (by decide)
theorem own_pd91181850 : parseMethodDescriptor "(I)V" = some ⟨[.int], none⟩ := by decide +kernel
theorem own_pd691884 : parseMethodDescriptor "()I" = some ⟨[], some .int⟩ := by decide +kernel
theorem own_pd985831335 : parseMethodDescriptor "([I)Z" = some ⟨[(.array .int)], some .boolean⟩ := by decide +kernel
theorem own_ef_own_law (m : MethodId) (x0 : Int32) (x1 : Int32) (x2 : Int32) (x3 : Int32) (x4 : Int32) (x5 : Int32) : entryFrame m #[(.int x0), (.int x1), (.int x2), (.int x3), (.int x4), (.int x5)] maxLocals = mkF m 0 #[.val (.int x0), .val (.int x1), .val (.int x2), .val (.int x3), .val (.int x4), .val (.int x5), .unset, .unset, .unset, .unset, .unset, .unset, .unset, .unset, .unset, .unset] [] := by first | (simp [entryFrame, mkF, argsToLocals, Value.category, maxLocals]; done) | rfl
def own_Q_own_law (Z : State) (p1 : Int32) (p2 : Int32) (p3 : Int32) (p4 : Int32) (p5 : Int32) (p6 : Int32) (h0 : Heap) (n0 : Nat) (v : Option Value) (h : Heap) (L : List Loc) : Prop := v = some (.int 1) ∧ Fr n0 L
theorem own_pn626351789 : plainName "com/example/lehti/lehti/eval/RelationGetPinLaw" = true := by first | (simp [plainName, overriddenIn]; done) | decide +kernel
set_option maxRecDepth 65536 in
set_option maxHeartbeats 40000000 in
theorem own_law (l : Launch) (Z : State) (a0 : Array Value) (hw : ∀ d ∈ tables_1, d.before a0 Z = true) (ws : List Jvm.Cond) (p1 : Int32) (p2 : Int32) (p3 : Int32) (p4 : Int32) (p5 : Int32) (p6 : Int32) (h0 : Heap) (n0 : Nat) (Z0 : n0 ≤ h0.size) :
    MetFree l x (head1 (Jvm.Cond.code x code maxLocals ret :: ws) room_1) (fun xa xU => xa = #[(.int p1), (.int p2), (.int p3), (.int p4), (.int p5), (.int p6)] ∧ Z.Warmed39 xU.vm ∧ xU.heap = h0) (fun _ _ _ _ _ => True) (fun _ xU xo xV => ∃ v L, xo = .returned v ∧ own_Q_own_law Z p1 p2 p3 p4 p5 p6 h0 n0 v xV.heap L ∧ FrameEnd xU xo xV L room_1.cells room_1.slots) := by
  refine MetFree.of_bodySF (plainFor_of_name own_pn626351789) hisR ?_
  intro p e s m args below meth c s₁ Bd hml0 hP hK
  obtain ⟨rfl, hZ, hh⟩ := hP
  have hx := Bd.exec
  have hby := Bd.bytes
  have hlk := Bd.notSynchronized
  have hret := Bd.returns
  have hml : c.maxLocals = 16 := hml0
  have hown : s.vm.findClass "com/example/lehti/lehti/eval/RelationGetPinLaw" = some m.cls := findClass_of_methodNamed Bd.named
  have hnm := (name_of_methodNamed Bd.named Bd.method).1
  have X0 : Stand p l e room_1 s m #[(.int p1), (.int p2), (.int p3), (.int p4), (.int p5), (.int p6)] below meth c s₁ [] 0 0 := Stand.of_body Bd
  have e0 : s₁.heap = h0 := by rw [← hh, Bd.state]; rfl
  have N0 := Fr.nil n0
  show own_Gl p e below s (own_Q_own_law Z p1 p2 p3 p4 p5 p6 h0 n0) room_1.cells room_1.slots _
  refine own_cast (own_ef_own_law m p1 p2 p3 p4 p5 p6) ?_
  show own_Gl _ _ _ _ _ _ _ (s₁.setTop (mkF m 0 #[.val (.int p1), .val (.int p2), .val (.int p3), .val (.int p4), .val (.int p5), .val (.int p6), .unset, .unset, .unset, .unset, .unset, .unset, .unset, .unset, .unset, .unset] []))
  obtain ⟨T1, h1, X1, e1, E1, A1, D1, -, st1⟩ := newO X0 hx hZ hown (hw _ (List.mem_of_getElem? (i := 0) rfl)) (hw _ (List.mem_of_getElem? (i := 1) rfl)) (hw _ (List.mem_of_getElem? (i := 2) rfl)) e0 (g := (mkF m 0 #[.val (.int p1), .val (.int p2), .val (.int p3), .val (.int p4), .val (.int p5), .val (.int p6), .unset, .unset, .unset, .unset, .unset, .unset, .unset, .unset, .unset, .unset] [])) rfl (hb hby at_0) (by decide) (by decide)
  obtain ⟨b1, gb1⟩ : ∃ z, z = h0.size := ⟨_, rfl⟩
  rw [← gb1] at A1 D1 st1
  refine own_st st1 ?_
  have Zs2 : n0 ≤ h1.size := Nat.le_trans Z0 E1.1
  have g_b1 : n0 ≤ b1 := Nat.le_trans Z0 (Nat.le_of_eq gb1.symm)
  have gh_b1 : h0.size ≤ b1 := Nat.le_trans (Keep.refl h0 []).1 (Nat.le_of_eq gb1.symm)
  have F_rowsByTuple_b1 : Fld Z h1 b1 "com/example/lehti/lehti/eval/Relation" "rowsByTuple" "[I" .null := D1 (Or.inl (hw _ (List.mem_of_getElem? (i := 11) rfl))) (ty := (.array .int)) (by decide)
  have F_indexes_b1 : Fld Z h1 b1 "com/example/lehti/lehti/eval/Relation" "indexes" "Ljava/util/Map;" .null := D1 (Or.inr (hw _ (List.mem_of_getElem? (i := 29) rfl))) (ty := (.object "java/util/Map")) (by decide)
  have F_arity_b1 : Fld Z h1 b1 "com/example/lehti/lehti/eval/Relation" "arity" "I" (.int (0 : Int32)) := D1 (Or.inr (hw _ (List.mem_of_getElem? (i := 31) rfl))) (ty := .int) (by decide)
  have F_values_b1 : Fld Z h1 b1 "com/example/lehti/lehti/eval/Relation" "values" "[I" .null := D1 (Or.inl (hw _ (List.mem_of_getElem? (i := 37) rfl))) (ty := (.array .int)) (by decide)
  have F_size_b1 : Fld Z h1 b1 "com/example/lehti/lehti/eval/Relation" "size" "I" (.int (0 : Int32)) := D1 (Or.inl (hw _ (List.mem_of_getElem? (i := 50) rfl))) (ty := .int) (by decide)
  show own_Gl _ _ _ _ _ _ _ (T1.setTop (mkF m 3 #[.val (.int p1), .val (.int p2), .val (.int p3), .val (.int p4), .val (.int p5), .val (.int p6), .unset, .unset, .unset, .unset, .unset, .unset, .unset, .unset, .unset, .unset] [(.ref b1)]))
  refine own_st (fun _ k => XS.dup X1.here hx rfl (hb hby at_3) rfl rfl k) ?_
  show own_Gl _ _ _ _ _ _ _ (T1.setTop (mkF m 4 #[.val (.int p1), .val (.int p2), .val (.int p3), .val (.int p4), .val (.int p5), .val (.int p6), .unset, .unset, .unset, .unset, .unset, .unset, .unset, .unset, .unset, .unset] [(.ref b1), (.ref b1)]))
  refine own_st (fun _ k => XS.iconst X1.here hx rfl (hb hby at_4) k) ?_
  show own_Gl _ _ _ _ _ _ _ (T1.setTop (mkF m 5 #[.val (.int p1), .val (.int p2), .val (.int p3), .val (.int p4), .val (.int p5), .val (.int p6), .unset, .unset, .unset, .unset, .unset, .unset, .unset, .unset, .unset, .unset] [(.int (2 : Int32)), (.ref b1), (.ref b1)]))
  obtain ⟨_, _, ⟨T4, L4, k4, n4⟩, -, X4, ⟨Lc4, hQ4, l4, y4, z4⟩, st4⟩ := X1.specialBack hx (y := (⟨"com/example/lehti/lehti/eval/Relation", "<init>", "(I)V"⟩ : MethodName)) rfl hown (mvT hZ (hw _ (List.mem_of_getElem? (i := 3) rfl))) (mvT hZ (hw _ (List.mem_of_getElem? (i := 4) rfl))) (mvT hZ (hw _ (List.mem_of_getElem? (i := 5) rfl))) (by decide) (backOf (W := 1) (own_init l Z a0 hw [] b1 h1 n0 Zs2 A1 F_rowsByTuple_b1 F_indexes_b1 F_arity_b1 F_values_b1 F_size_b1 g_b1) hZ (hw _ (List.mem_of_getElem? (i := 5) rfl)) (hw _ (List.mem_of_getElem? (i := 2) rfl)) (by decide) (by decide)) (g := (mkF m 5 #[.val (.int p1), .val (.int p2), .val (.int p3), .val (.int p4), .val (.int p5), .val (.int p6), .unset, .unset, .unset, .unset, .unset, .unset, .unset, .unset, .unset, .unset] [(.int (2 : Int32)), (.ref b1), (.ref b1)])) rfl (by rw [hml]; rfl) (Steps.refl _) (a := b1) (argsL := [(.int (2 : Int32))]) (rest := [(.ref b1)]) (lenOf own_pd91181850 rfl) rfl (by show 2 * 0 + _ ≤ _; exact Nat.le_of_eq rfl) (hb hby at_5) (fun _ _ => ⟨rfl, e1, (by decide : 1 + 3 ≤ room_1.cells), (by decide : 5 + 56 ≤ room_1.slots)⟩)
  dsimp only [Pt.U, Pt.locs, Pt.cells, Pt.slots] at X4 l4 y4 z4 st4 hQ4
  subst l4 y4 z4
  obtain ⟨hh4, eh04⟩ : ∃ z, T4.heap = z := ⟨_, rfl⟩
  rw [eh04] at hQ4
  obtain ⟨rb_4, mp_4, vb_4, kr_4, kv_4, rfl, Nq4, Kq4, P4_0, P4_1, P4_2, P4_3, P4_4, P4_5, P4_6, P4_7, P4_8, P4_9, P4_10, P4_11, P4_12, P4_13, P4_14, P4_15, P4_16, P4_17, P4_18⟩ := hQ4
  have N4 := Fr.app N0 Nq4
  refine own_tr st4 ?_
  have K5 : Keep h0 h1 [] := ((Keep.refl h0 []).ext E1)
  have Zs6 : n0 ≤ hh4.size := Nat.le_trans Zs2 Kq4.1
  have gh_rb_4 : h0.size ≤ rb_4 := Nat.le_trans K5.1 P4_1
  have ne_b1_rb_4 : b1 ≠ rb_4 := Nat.ne_of_lt (Nat.lt_of_lt_of_le A1.lt P4_1)
  have gh_mp_4 : h0.size ≤ mp_4 := Nat.le_trans K5.1 P4_3
  have ne_b1_mp_4 : b1 ≠ mp_4 := Nat.ne_of_lt (Nat.lt_of_lt_of_le A1.lt P4_3)
  have gh_vb_4 : h0.size ≤ vb_4 := Nat.le_trans K5.1 P4_5
  have ne_b1_vb_4 : b1 ≠ vb_4 := Nat.ne_of_lt (Nat.lt_of_lt_of_le A1.lt P4_5)
  show own_Gl _ _ _ _ _ _ _ (T4.setTop (mkF m 8 #[.val (.int p1), .val (.int p2), .val (.int p3), .val (.int p4), .val (.int p5), .val (.int p6), .unset, .unset, .unset, .unset, .unset, .unset, .unset, .unset, .unset, .unset] [(.ref b1)]))
  refine own_st (fun _ k => XS.astore X4.here hx rfl (hb hby at_8) rfl rfl (l' := #[.val (.int p1), .val (.int p2), .val (.int p3), .val (.int p4), .val (.int p5), .val (.int p6), .val (.ref b1), .unset, .unset, .unset, .unset, .unset, .unset, .unset, .unset, .unset]) rfl k) ?_
  show own_Gl _ _ _ _ _ _ _ (T4.setTop (mkF m 10 #[.val (.int p1), .val (.int p2), .val (.int p3), .val (.int p4), .val (.int p5), .val (.int p6), .val (.ref b1), .unset, .unset, .unset, .unset, .unset, .unset, .unset, .unset, .unset] []))
  refine own_st (fun _ k => XS.iconst X4.here hx rfl (hb hby at_10) k) ?_
  show own_Gl _ _ _ _ _ _ _ (T4.setTop (mkF m 11 #[.val (.int p1), .val (.int p2), .val (.int p3), .val (.int p4), .val (.int p5), .val (.int p6), .val (.ref b1), .unset, .unset, .unset, .unset, .unset, .unset, .unset, .unset, .unset] [(.int (2 : Int32))]))
  have f7 := (A1.keep Kq4)
  have K8 : Keep h0 hh4 [] := (K5.trans Kq4 (allS (Or.inr gh_b1) all0))
  obtain ⟨T9, h9, k9, X9, e9, E9, A9, st9⟩ := newP X4 hx hZ (hw _ (List.mem_of_getElem? (i := 9) rfl)) eh04 (g := (mkF m 11 #[.val (.int p1), .val (.int p2), .val (.int p3), .val (.int p4), .val (.int p5), .val (.int p6), .val (.ref b1), .unset, .unset, .unset, .unset, .unset, .unset, .unset, .unset, .unset] [(.int (2 : Int32))])) rfl (hb hby at_11) rfl (by decide) (cap := 2) (by decide) (by decide) (by decide) (by decide)
  obtain ⟨b9, gb9⟩ : ∃ z, z = hh4.size := ⟨_, rfl⟩
  rw [← gb9] at A9 st9
  refine own_st st9 ?_
  have Zs10 : n0 ≤ h9.size := Nat.le_trans Zs6 E9.1
  have g_b9 : n0 ≤ b9 := Nat.le_trans Zs6 (Nat.le_of_eq gb9.symm)
  have gh_b9 : h0.size ≤ b9 := Nat.le_trans K8.1 (Nat.le_of_eq gb9.symm)
  have ne_b1_b9 : b1 ≠ b9 := Nat.ne_of_lt (Nat.lt_of_lt_of_le f7.lt (Nat.le_of_eq gb9.symm))
  have ne_rb_4_b9 : rb_4 ≠ b9 := Nat.ne_of_lt (Nat.lt_of_lt_of_le P4_14.lt (Nat.le_of_eq gb9.symm))
  have ne_vb_4_b9 : vb_4 ≠ b9 := Nat.ne_of_lt (Nat.lt_of_lt_of_le P4_15.lt (Nat.le_of_eq gb9.symm))
  have ne_mp_4_b9 : mp_4 ≠ b9 := Nat.ne_of_lt (Nat.lt_of_lt_of_le P4_16.lt (Nat.le_of_eq gb9.symm))
  have V_b9 : Arv Z h9 b9 k9 .int (2 : Int32) [(.int (0 : Int32)), (.int (0 : Int32))] (.int (0 : Int32)) := (Arv.new A9 (by decide)).pad (pad_rep [] (.int (0 : Int32)) 2)
  show own_Gl _ _ _ _ _ _ _ (T9.setTop (mkF m 13 #[.val (.int p1), .val (.int p2), .val (.int p3), .val (.int p4), .val (.int p5), .val (.int p6), .val (.ref b1), .unset, .unset, .unset, .unset, .unset, .unset, .unset, .unset, .unset] [(.ref b9)]))
  refine own_st (fun _ k => XS.dup X9.here hx rfl (hb hby at_13) rfl rfl k) ?_
  show own_Gl _ _ _ _ _ _ _ (T9.setTop (mkF m 14 #[.val (.int p1), .val (.int p2), .val (.int p3), .val (.int p4), .val (.int p5), .val (.int p6), .val (.ref b1), .unset, .unset, .unset, .unset, .unset, .unset, .unset, .unset, .unset] [(.ref b9), (.ref b9)]))
  refine own_st (fun _ k => XS.iconst X9.here hx rfl (hb hby at_14) k) ?_
  show own_Gl _ _ _ _ _ _ _ (T9.setTop (mkF m 15 #[.val (.int p1), .val (.int p2), .val (.int p3), .val (.int p4), .val (.int p5), .val (.int p6), .val (.ref b1), .unset, .unset, .unset, .unset, .unset, .unset, .unset, .unset, .unset] [(.int (0 : Int32)), (.ref b9), (.ref b9)]))
  refine own_st (fun _ k => XS.iloadN X9.here hx rfl (hb hby at_15) rfl k) ?_
  show own_Gl _ _ _ _ _ _ _ (T9.setTop (mkF m 16 #[.val (.int p1), .val (.int p2), .val (.int p3), .val (.int p4), .val (.int p5), .val (.int p6), .val (.ref b1), .unset, .unset, .unset, .unset, .unset, .unset, .unset, .unset, .unset] [(.int p1), (.int (0 : Int32)), (.ref b9), (.ref b9)]))
  obtain ⟨cl12, Ar12, qq12, Ss12, Nn12, Hh12, Gg12⟩ := id V_b9
  have hin12 : ¬ ((0 : Int32) < 0 ∨ cl12.slots.size ≤ ((0 : Int32)).toNatClampNeg) := inb_of Ss12 ⟨by decide, by decide⟩
  obtain ⟨T12, h12, X12, e12, W12, st12⟩ := stI X9 hx hZ e9 Ar12 (j := (0 : Int32)) hin12 (g := (mkF m 16 #[.val (.int p1), .val (.int p2), .val (.int p3), .val (.int p4), .val (.int p5), .val (.int p6), .val (.ref b1), .unset, .unset, .unset, .unset, .unset, .unset, .unset, .unset, .unset] [(.int p1), (.int (0 : Int32)), (.ref b9), (.ref b9)])) rfl rfl (hb hby at_16)
  have N12 := Fr.snoc X12 N4 g_b9
  refine own_st st12 ?_
  have Zs13 : n0 ≤ h12.size := Nat.le_trans Zs10 (Keep.of_wr W12).1
  have Vw12 : Arv Z h12 b9 k9 .int (2 : Int32) [(.int p1), (.int (0 : Int32))] (.int (0 : Int32)) := Arv.set Ar12 qq12 Ss12 Nn12 Hh12 Gg12 rfl W12 0 (rfl) (Nat.le_of_ble_eq_true rfl)
  show own_Gl _ _ _ _ _ _ _ (T12.setTop (mkF m 17 #[.val (.int p1), .val (.int p2), .val (.int p3), .val (.int p4), .val (.int p5), .val (.int p6), .val (.ref b1), .unset, .unset, .unset, .unset, .unset, .unset, .unset, .unset, .unset] [(.ref b9)]))
  refine own_st (fun _ k => XS.dup X12.here hx rfl (hb hby at_17) rfl rfl k) ?_
  show own_Gl _ _ _ _ _ _ _ (T12.setTop (mkF m 18 #[.val (.int p1), .val (.int p2), .val (.int p3), .val (.int p4), .val (.int p5), .val (.int p6), .val (.ref b1), .unset, .unset, .unset, .unset, .unset, .unset, .unset, .unset, .unset] [(.ref b9), (.ref b9)]))
  refine own_st (fun _ k => XS.iconst X12.here hx rfl (hb hby at_18) k) ?_
  show own_Gl _ _ _ _ _ _ _ (T12.setTop (mkF m 19 #[.val (.int p1), .val (.int p2), .val (.int p3), .val (.int p4), .val (.int p5), .val (.int p6), .val (.ref b1), .unset, .unset, .unset, .unset, .unset, .unset, .unset, .unset, .unset] [(.int (1 : Int32)), (.ref b9), (.ref b9)]))
  refine own_st (fun _ k => XS.iloadN X12.here hx rfl (hb hby at_19) rfl k) ?_
  show own_Gl _ _ _ _ _ _ _ (T12.setTop (mkF m 20 #[.val (.int p1), .val (.int p2), .val (.int p3), .val (.int p4), .val (.int p5), .val (.int p6), .val (.ref b1), .unset, .unset, .unset, .unset, .unset, .unset, .unset, .unset, .unset] [(.int p2), (.int (1 : Int32)), (.ref b9), (.ref b9)]))
  obtain ⟨cl14, Ar14, qq14, Ss14, Nn14, Hh14, Gg14⟩ := id Vw12
  have hin14 : ¬ ((1 : Int32) < 0 ∨ cl14.slots.size ≤ ((1 : Int32)).toNatClampNeg) := inb_of Ss14 ⟨by decide, by decide⟩
  obtain ⟨T14, h14, X14, e14, W14, st14⟩ := stI X12 hx hZ e12 Ar14 (j := (1 : Int32)) hin14 (g := (mkF m 20 #[.val (.int p1), .val (.int p2), .val (.int p3), .val (.int p4), .val (.int p5), .val (.int p6), .val (.ref b1), .unset, .unset, .unset, .unset, .unset, .unset, .unset, .unset, .unset] [(.int p2), (.int (1 : Int32)), (.ref b9), (.ref b9)])) rfl rfl (hb hby at_20)
  have N14 := Fr.snoc X14 N12 g_b9
  refine own_st st14 ?_
  have Zs15 : n0 ≤ h14.size := Nat.le_trans Zs13 (Keep.of_wr W14).1
  have Vw14 : Arv Z h14 b9 k9 .int (2 : Int32) [(.int p1), (.int p2)] (.int (0 : Int32)) := Arv.set Ar14 qq14 Ss14 Nn14 Hh14 Gg14 rfl W14 1 (rfl) (Nat.le_of_ble_eq_true rfl)
  show own_Gl _ _ _ _ _ _ _ (T14.setTop (mkF m 21 #[.val (.int p1), .val (.int p2), .val (.int p3), .val (.int p4), .val (.int p5), .val (.int p6), .val (.ref b1), .unset, .unset, .unset, .unset, .unset, .unset, .unset, .unset, .unset] [(.ref b9)]))
  refine own_st (fun _ k => XS.astore X14.here hx rfl (hb hby at_21) rfl rfl (l' := #[.val (.int p1), .val (.int p2), .val (.int p3), .val (.int p4), .val (.int p5), .val (.int p6), .val (.ref b1), .val (.ref b9), .unset, .unset, .unset, .unset, .unset, .unset, .unset, .unset]) rfl k) ?_
  show own_Gl _ _ _ _ _ _ _ (T14.setTop (mkF m 23 #[.val (.int p1), .val (.int p2), .val (.int p3), .val (.int p4), .val (.int p5), .val (.int p6), .val (.ref b1), .val (.ref b9), .unset, .unset, .unset, .unset, .unset, .unset, .unset, .unset] []))
  refine own_st (fun _ k => XS.iconst X14.here hx rfl (hb hby at_23) k) ?_
  show own_Gl _ _ _ _ _ _ _ (T14.setTop (mkF m 24 #[.val (.int p1), .val (.int p2), .val (.int p3), .val (.int p4), .val (.int p5), .val (.int p6), .val (.ref b1), .val (.ref b9), .unset, .unset, .unset, .unset, .unset, .unset, .unset, .unset] [(.int (2 : Int32))]))
  have f16 := (((f7.ext E9).wr W12).wr W14)
  have f17 := (((P4_14.ext E9).other W12 ne_rb_4_b9).other W14 ne_rb_4_b9)
  have f18 := (((P4_15.ext E9).other W12 ne_vb_4_b9).other W14 ne_vb_4_b9)
  have f19 := (((P4_16.ext E9).wr W12).wr W14)
  have K20 : Keep h0 h14 [] := (((K8.ext E9).wr W12 (Or.inr gh_b9)).wr W14 (Or.inr gh_b9))
  obtain ⟨T21, h21, k21, X21, e21, E21, A21, st21⟩ := newP X14 hx hZ (hw _ (List.mem_of_getElem? (i := 9) rfl)) e14 (g := (mkF m 24 #[.val (.int p1), .val (.int p2), .val (.int p3), .val (.int p4), .val (.int p5), .val (.int p6), .val (.ref b1), .val (.ref b9), .unset, .unset, .unset, .unset, .unset, .unset, .unset, .unset] [(.int (2 : Int32))])) rfl (hb hby at_24) rfl (by decide) (cap := 2) (by decide) (by decide) (by decide) (by decide)
  obtain ⟨b21, gb21⟩ : ∃ z, z = h14.size := ⟨_, rfl⟩
  rw [← gb21] at A21 st21
  refine own_st st21 ?_
  have Zs22 : n0 ≤ h21.size := Nat.le_trans Zs15 E21.1
  have g_b21 : n0 ≤ b21 := Nat.le_trans Zs15 (Nat.le_of_eq gb21.symm)
  have gh_b21 : h0.size ≤ b21 := Nat.le_trans K20.1 (Nat.le_of_eq gb21.symm)
  have ne_b1_b21 : b1 ≠ b21 := Nat.ne_of_lt (Nat.lt_of_lt_of_le f16.lt (Nat.le_of_eq gb21.symm))
  have ne_rb_4_b21 : rb_4 ≠ b21 := Nat.ne_of_lt (Nat.lt_of_lt_of_le f17.lt (Nat.le_of_eq gb21.symm))
  have ne_vb_4_b21 : vb_4 ≠ b21 := Nat.ne_of_lt (Nat.lt_of_lt_of_le f18.lt (Nat.le_of_eq gb21.symm))
  have ne_mp_4_b21 : mp_4 ≠ b21 := Nat.ne_of_lt (Nat.lt_of_lt_of_le f19.lt (Nat.le_of_eq gb21.symm))
  have ne_b9_b21 : b9 ≠ b21 := Nat.ne_of_lt (Nat.lt_of_lt_of_le Vw14.lt (Nat.le_of_eq gb21.symm))
  have V_b21 : Arv Z h21 b21 k21 .int (2 : Int32) [(.int (0 : Int32)), (.int (0 : Int32))] (.int (0 : Int32)) := (Arv.new A21 (by decide)).pad (pad_rep [] (.int (0 : Int32)) 2)
  show own_Gl _ _ _ _ _ _ _ (T21.setTop (mkF m 26 #[.val (.int p1), .val (.int p2), .val (.int p3), .val (.int p4), .val (.int p5), .val (.int p6), .val (.ref b1), .val (.ref b9), .unset, .unset, .unset, .unset, .unset, .unset, .unset, .unset] [(.ref b21)]))
  refine own_st (fun _ k => XS.dup X21.here hx rfl (hb hby at_26) rfl rfl k) ?_
  show own_Gl _ _ _ _ _ _ _ (T21.setTop (mkF m 27 #[.val (.int p1), .val (.int p2), .val (.int p3), .val (.int p4), .val (.int p5), .val (.int p6), .val (.ref b1), .val (.ref b9), .unset, .unset, .unset, .unset, .unset, .unset, .unset, .unset] [(.ref b21), (.ref b21)]))
  refine own_st (fun _ k => XS.iconst X21.here hx rfl (hb hby at_27) k) ?_
  show own_Gl _ _ _ _ _ _ _ (T21.setTop (mkF m 28 #[.val (.int p1), .val (.int p2), .val (.int p3), .val (.int p4), .val (.int p5), .val (.int p6), .val (.ref b1), .val (.ref b9), .unset, .unset, .unset, .unset, .unset, .unset, .unset, .unset] [(.int (0 : Int32)), (.ref b21), (.ref b21)]))
  refine own_st (fun _ k => XS.iloadN X21.here hx rfl (hb hby at_28) rfl k) ?_
  show own_Gl _ _ _ _ _ _ _ (T21.setTop (mkF m 29 #[.val (.int p1), .val (.int p2), .val (.int p3), .val (.int p4), .val (.int p5), .val (.int p6), .val (.ref b1), .val (.ref b9), .unset, .unset, .unset, .unset, .unset, .unset, .unset, .unset] [(.int p3), (.int (0 : Int32)), (.ref b21), (.ref b21)]))
  obtain ⟨cl24, Ar24, qq24, Ss24, Nn24, Hh24, Gg24⟩ := id V_b21
  have hin24 : ¬ ((0 : Int32) < 0 ∨ cl24.slots.size ≤ ((0 : Int32)).toNatClampNeg) := inb_of Ss24 ⟨by decide, by decide⟩
  obtain ⟨T24, h24, X24, e24, W24, st24⟩ := stI X21 hx hZ e21 Ar24 (j := (0 : Int32)) hin24 (g := (mkF m 29 #[.val (.int p1), .val (.int p2), .val (.int p3), .val (.int p4), .val (.int p5), .val (.int p6), .val (.ref b1), .val (.ref b9), .unset, .unset, .unset, .unset, .unset, .unset, .unset, .unset] [(.int p3), (.int (0 : Int32)), (.ref b21), (.ref b21)])) rfl rfl (hb hby at_29)
  have N24 := Fr.snoc X24 N14 g_b21
  refine own_st st24 ?_
  have Zs25 : n0 ≤ h24.size := Nat.le_trans Zs22 (Keep.of_wr W24).1
  have Vw24 : Arv Z h24 b21 k21 .int (2 : Int32) [(.int p3), (.int (0 : Int32))] (.int (0 : Int32)) := Arv.set Ar24 qq24 Ss24 Nn24 Hh24 Gg24 rfl W24 0 (rfl) (Nat.le_of_ble_eq_true rfl)
  show own_Gl _ _ _ _ _ _ _ (T24.setTop (mkF m 30 #[.val (.int p1), .val (.int p2), .val (.int p3), .val (.int p4), .val (.int p5), .val (.int p6), .val (.ref b1), .val (.ref b9), .unset, .unset, .unset, .unset, .unset, .unset, .unset, .unset] [(.ref b21)]))
  refine own_st (fun _ k => XS.dup X24.here hx rfl (hb hby at_30) rfl rfl k) ?_
  show own_Gl _ _ _ _ _ _ _ (T24.setTop (mkF m 31 #[.val (.int p1), .val (.int p2), .val (.int p3), .val (.int p4), .val (.int p5), .val (.int p6), .val (.ref b1), .val (.ref b9), .unset, .unset, .unset, .unset, .unset, .unset, .unset, .unset] [(.ref b21), (.ref b21)]))
  refine own_st (fun _ k => XS.iconst X24.here hx rfl (hb hby at_31) k) ?_
  show own_Gl _ _ _ _ _ _ _ (T24.setTop (mkF m 32 #[.val (.int p1), .val (.int p2), .val (.int p3), .val (.int p4), .val (.int p5), .val (.int p6), .val (.ref b1), .val (.ref b9), .unset, .unset, .unset, .unset, .unset, .unset, .unset, .unset] [(.int (1 : Int32)), (.ref b21), (.ref b21)]))
  refine own_st (fun _ k => XS.iloadN X24.here hx rfl (hb hby at_32) rfl k) ?_
  show own_Gl _ _ _ _ _ _ _ (T24.setTop (mkF m 33 #[.val (.int p1), .val (.int p2), .val (.int p3), .val (.int p4), .val (.int p5), .val (.int p6), .val (.ref b1), .val (.ref b9), .unset, .unset, .unset, .unset, .unset, .unset, .unset, .unset] [(.int p4), (.int (1 : Int32)), (.ref b21), (.ref b21)]))
  obtain ⟨cl26, Ar26, qq26, Ss26, Nn26, Hh26, Gg26⟩ := id Vw24
  have hin26 : ¬ ((1 : Int32) < 0 ∨ cl26.slots.size ≤ ((1 : Int32)).toNatClampNeg) := inb_of Ss26 ⟨by decide, by decide⟩
  obtain ⟨T26, h26, X26, e26, W26, st26⟩ := stI X24 hx hZ e24 Ar26 (j := (1 : Int32)) hin26 (g := (mkF m 33 #[.val (.int p1), .val (.int p2), .val (.int p3), .val (.int p4), .val (.int p5), .val (.int p6), .val (.ref b1), .val (.ref b9), .unset, .unset, .unset, .unset, .unset, .unset, .unset, .unset] [(.int p4), (.int (1 : Int32)), (.ref b21), (.ref b21)])) rfl rfl (hb hby at_33)
  have N26 := Fr.snoc X26 N24 g_b21
  refine own_st st26 ?_
  have Zs27 : n0 ≤ h26.size := Nat.le_trans Zs25 (Keep.of_wr W26).1
  have Vw26 : Arv Z h26 b21 k21 .int (2 : Int32) [(.int p3), (.int p4)] (.int (0 : Int32)) := Arv.set Ar26 qq26 Ss26 Nn26 Hh26 Gg26 rfl W26 1 (rfl) (Nat.le_of_ble_eq_true rfl)
  show own_Gl _ _ _ _ _ _ _ (T26.setTop (mkF m 34 #[.val (.int p1), .val (.int p2), .val (.int p3), .val (.int p4), .val (.int p5), .val (.int p6), .val (.ref b1), .val (.ref b9), .unset, .unset, .unset, .unset, .unset, .unset, .unset, .unset] [(.ref b21)]))
  refine own_st (fun _ k => XS.astore X26.here hx rfl (hb hby at_34) rfl rfl (l' := #[.val (.int p1), .val (.int p2), .val (.int p3), .val (.int p4), .val (.int p5), .val (.int p6), .val (.ref b1), .val (.ref b9), .val (.ref b21), .unset, .unset, .unset, .unset, .unset, .unset, .unset]) rfl k) ?_
  show own_Gl _ _ _ _ _ _ _ (T26.setTop (mkF m 36 #[.val (.int p1), .val (.int p2), .val (.int p3), .val (.int p4), .val (.int p5), .val (.int p6), .val (.ref b1), .val (.ref b9), .val (.ref b21), .unset, .unset, .unset, .unset, .unset, .unset, .unset] []))
  refine own_st (fun _ k => XS.iconst X26.here hx rfl (hb hby at_36) k) ?_
  show own_Gl _ _ _ _ _ _ _ (T26.setTop (mkF m 37 #[.val (.int p1), .val (.int p2), .val (.int p3), .val (.int p4), .val (.int p5), .val (.int p6), .val (.ref b1), .val (.ref b9), .val (.ref b21), .unset, .unset, .unset, .unset, .unset, .unset, .unset] [(.int (2 : Int32))]))
  have f28 := (((f16.ext E21).wr W24).wr W26)
  have f29 := (((f17.ext E21).other W24 ne_rb_4_b21).other W26 ne_rb_4_b21)
  have f30 := (((f18.ext E21).other W24 ne_vb_4_b21).other W26 ne_vb_4_b21)
  have f31 := (((f19.ext E21).wr W24).wr W26)
  have f32 := (((Vw14.ext E21).other W24 ne_b9_b21).other W26 ne_b9_b21)
  have K33 : Keep h0 h26 [] := (((K20.ext E21).wr W24 (Or.inr gh_b21)).wr W26 (Or.inr gh_b21))
  obtain ⟨T34, h34, k34, X34, e34, E34, A34, st34⟩ := newP X26 hx hZ (hw _ (List.mem_of_getElem? (i := 9) rfl)) e26 (g := (mkF m 37 #[.val (.int p1), .val (.int p2), .val (.int p3), .val (.int p4), .val (.int p5), .val (.int p6), .val (.ref b1), .val (.ref b9), .val (.ref b21), .unset, .unset, .unset, .unset, .unset, .unset, .unset] [(.int (2 : Int32))])) rfl (hb hby at_37) rfl (by decide) (cap := 2) (by decide) (by decide) (by decide) (by decide)
  obtain ⟨b34, gb34⟩ : ∃ z, z = h26.size := ⟨_, rfl⟩
  rw [← gb34] at A34 st34
  refine own_st st34 ?_
  have Zs35 : n0 ≤ h34.size := Nat.le_trans Zs27 E34.1
  have g_b34 : n0 ≤ b34 := Nat.le_trans Zs27 (Nat.le_of_eq gb34.symm)
  have gh_b34 : h0.size ≤ b34 := Nat.le_trans K33.1 (Nat.le_of_eq gb34.symm)
  have ne_b1_b34 : b1 ≠ b34 := Nat.ne_of_lt (Nat.lt_of_lt_of_le f28.lt (Nat.le_of_eq gb34.symm))
  have ne_rb_4_b34 : rb_4 ≠ b34 := Nat.ne_of_lt (Nat.lt_of_lt_of_le f29.lt (Nat.le_of_eq gb34.symm))
  have ne_vb_4_b34 : vb_4 ≠ b34 := Nat.ne_of_lt (Nat.lt_of_lt_of_le f30.lt (Nat.le_of_eq gb34.symm))
  have ne_mp_4_b34 : mp_4 ≠ b34 := Nat.ne_of_lt (Nat.lt_of_lt_of_le f31.lt (Nat.le_of_eq gb34.symm))
  have ne_b9_b34 : b9 ≠ b34 := Nat.ne_of_lt (Nat.lt_of_lt_of_le f32.lt (Nat.le_of_eq gb34.symm))
  have ne_b21_b34 : b21 ≠ b34 := Nat.ne_of_lt (Nat.lt_of_lt_of_le Vw26.lt (Nat.le_of_eq gb34.symm))
  have V_b34 : Arv Z h34 b34 k34 .int (2 : Int32) [(.int (0 : Int32)), (.int (0 : Int32))] (.int (0 : Int32)) := (Arv.new A34 (by decide)).pad (pad_rep [] (.int (0 : Int32)) 2)
  show own_Gl _ _ _ _ _ _ _ (T34.setTop (mkF m 39 #[.val (.int p1), .val (.int p2), .val (.int p3), .val (.int p4), .val (.int p5), .val (.int p6), .val (.ref b1), .val (.ref b9), .val (.ref b21), .unset, .unset, .unset, .unset, .unset, .unset, .unset] [(.ref b34)]))
  refine own_st (fun _ k => XS.dup X34.here hx rfl (hb hby at_39) rfl rfl k) ?_
  show own_Gl _ _ _ _ _ _ _ (T34.setTop (mkF m 40 #[.val (.int p1), .val (.int p2), .val (.int p3), .val (.int p4), .val (.int p5), .val (.int p6), .val (.ref b1), .val (.ref b9), .val (.ref b21), .unset, .unset, .unset, .unset, .unset, .unset, .unset] [(.ref b34), (.ref b34)]))
  refine own_st (fun _ k => XS.iconst X34.here hx rfl (hb hby at_40) k) ?_
  show own_Gl _ _ _ _ _ _ _ (T34.setTop (mkF m 41 #[.val (.int p1), .val (.int p2), .val (.int p3), .val (.int p4), .val (.int p5), .val (.int p6), .val (.ref b1), .val (.ref b9), .val (.ref b21), .unset, .unset, .unset, .unset, .unset, .unset, .unset] [(.int (0 : Int32)), (.ref b34), (.ref b34)]))
  refine own_st (fun _ k => XS.iload X34.here hx rfl (hb hby at_41) rfl k) ?_
  show own_Gl _ _ _ _ _ _ _ (T34.setTop (mkF m 43 #[.val (.int p1), .val (.int p2), .val (.int p3), .val (.int p4), .val (.int p5), .val (.int p6), .val (.ref b1), .val (.ref b9), .val (.ref b21), .unset, .unset, .unset, .unset, .unset, .unset, .unset] [(.int p5), (.int (0 : Int32)), (.ref b34), (.ref b34)]))
  obtain ⟨cl37, Ar37, qq37, Ss37, Nn37, Hh37, Gg37⟩ := id V_b34
  have hin37 : ¬ ((0 : Int32) < 0 ∨ cl37.slots.size ≤ ((0 : Int32)).toNatClampNeg) := inb_of Ss37 ⟨by decide, by decide⟩
  obtain ⟨T37, h37, X37, e37, W37, st37⟩ := stI X34 hx hZ e34 Ar37 (j := (0 : Int32)) hin37 (g := (mkF m 43 #[.val (.int p1), .val (.int p2), .val (.int p3), .val (.int p4), .val (.int p5), .val (.int p6), .val (.ref b1), .val (.ref b9), .val (.ref b21), .unset, .unset, .unset, .unset, .unset, .unset, .unset] [(.int p5), (.int (0 : Int32)), (.ref b34), (.ref b34)])) rfl rfl (hb hby at_43)
  have N37 := Fr.snoc X37 N26 g_b34
  refine own_st st37 ?_
  have Zs38 : n0 ≤ h37.size := Nat.le_trans Zs35 (Keep.of_wr W37).1
  have Vw37 : Arv Z h37 b34 k34 .int (2 : Int32) [(.int p5), (.int (0 : Int32))] (.int (0 : Int32)) := Arv.set Ar37 qq37 Ss37 Nn37 Hh37 Gg37 rfl W37 0 (rfl) (Nat.le_of_ble_eq_true rfl)
  show own_Gl _ _ _ _ _ _ _ (T37.setTop (mkF m 44 #[.val (.int p1), .val (.int p2), .val (.int p3), .val (.int p4), .val (.int p5), .val (.int p6), .val (.ref b1), .val (.ref b9), .val (.ref b21), .unset, .unset, .unset, .unset, .unset, .unset, .unset] [(.ref b34)]))
  refine own_st (fun _ k => XS.dup X37.here hx rfl (hb hby at_44) rfl rfl k) ?_
  show own_Gl _ _ _ _ _ _ _ (T37.setTop (mkF m 45 #[.val (.int p1), .val (.int p2), .val (.int p3), .val (.int p4), .val (.int p5), .val (.int p6), .val (.ref b1), .val (.ref b9), .val (.ref b21), .unset, .unset, .unset, .unset, .unset, .unset, .unset] [(.ref b34), (.ref b34)]))
  refine own_st (fun _ k => XS.iconst X37.here hx rfl (hb hby at_45) k) ?_
  show own_Gl _ _ _ _ _ _ _ (T37.setTop (mkF m 46 #[.val (.int p1), .val (.int p2), .val (.int p3), .val (.int p4), .val (.int p5), .val (.int p6), .val (.ref b1), .val (.ref b9), .val (.ref b21), .unset, .unset, .unset, .unset, .unset, .unset, .unset] [(.int (1 : Int32)), (.ref b34), (.ref b34)]))
  refine own_st (fun _ k => XS.iloadN X37.here hx rfl (hb hby at_46) rfl k) ?_
  show own_Gl _ _ _ _ _ _ _ (T37.setTop (mkF m 47 #[.val (.int p1), .val (.int p2), .val (.int p3), .val (.int p4), .val (.int p5), .val (.int p6), .val (.ref b1), .val (.ref b9), .val (.ref b21), .unset, .unset, .unset, .unset, .unset, .unset, .unset] [(.int p2), (.int (1 : Int32)), (.ref b34), (.ref b34)]))
  obtain ⟨cl39, Ar39, qq39, Ss39, Nn39, Hh39, Gg39⟩ := id Vw37
  have hin39 : ¬ ((1 : Int32) < 0 ∨ cl39.slots.size ≤ ((1 : Int32)).toNatClampNeg) := inb_of Ss39 ⟨by decide, by decide⟩
  obtain ⟨T39, h39, X39, e39, W39, st39⟩ := stI X37 hx hZ e37 Ar39 (j := (1 : Int32)) hin39 (g := (mkF m 47 #[.val (.int p1), .val (.int p2), .val (.int p3), .val (.int p4), .val (.int p5), .val (.int p6), .val (.ref b1), .val (.ref b9), .val (.ref b21), .unset, .unset, .unset, .unset, .unset, .unset, .unset] [(.int p2), (.int (1 : Int32)), (.ref b34), (.ref b34)])) rfl rfl (hb hby at_47)
  have N39 := Fr.snoc X39 N37 g_b34
  refine own_st st39 ?_
  have Zs40 : n0 ≤ h39.size := Nat.le_trans Zs38 (Keep.of_wr W39).1
  have Vw39 : Arv Z h39 b34 k34 .int (2 : Int32) [(.int p5), (.int p2)] (.int (0 : Int32)) := Arv.set Ar39 qq39 Ss39 Nn39 Hh39 Gg39 rfl W39 1 (rfl) (Nat.le_of_ble_eq_true rfl)
  show own_Gl _ _ _ _ _ _ _ (T39.setTop (mkF m 48 #[.val (.int p1), .val (.int p2), .val (.int p3), .val (.int p4), .val (.int p5), .val (.int p6), .val (.ref b1), .val (.ref b9), .val (.ref b21), .unset, .unset, .unset, .unset, .unset, .unset, .unset] [(.ref b34)]))
  refine own_st (fun _ k => XS.astore X39.here hx rfl (hb hby at_48) rfl rfl (l' := #[.val (.int p1), .val (.int p2), .val (.int p3), .val (.int p4), .val (.int p5), .val (.int p6), .val (.ref b1), .val (.ref b9), .val (.ref b21), .val (.ref b34), .unset, .unset, .unset, .unset, .unset, .unset]) rfl k) ?_
  show own_Gl _ _ _ _ _ _ _ (T39.setTop (mkF m 50 #[.val (.int p1), .val (.int p2), .val (.int p3), .val (.int p4), .val (.int p5), .val (.int p6), .val (.ref b1), .val (.ref b9), .val (.ref b21), .val (.ref b34), .unset, .unset, .unset, .unset, .unset, .unset] []))
  have J74_41 : ∀ (T41 : State) (LL41 : List Loc) (N41 : Fr n0 LL41) (X41 : Stand p l e room_1 s m #[(.int p1), (.int p2), (.int p3), (.int p4), (.int p5), (.int p6)] below meth c T41 LL41 7 67) (h41 : Heap) (e41 : T41.heap = h41) (N : Int32) (vf : Nat → Int32) (Zs41 : n0 ≤ h41.size) (Kj41 : Keep h0 h41 []) (fj41_0 : Fld Z h41 b1 "com/example/lehti/lehti/eval/Relation" "size" "I" (.int N)) (fj41_1 : Fld Z h41 b1 "com/example/lehti/lehti/eval/Relation" "arity" "I" (.int (2 : Int32))) (fj41_2 : Fld Z h41 b1 "com/example/lehti/lehti/eval/Relation" "values" "[I" (.ref vb_4)) (fj41_3 : Arv Z h41 vb_4 kv_4 .int (32 : Int32) (own_fl 32 vf) (.int (0 : Int32))) (fj41_4 : Exa Z h41 b1 "com/example/lehti/lehti/eval/Relation") (hst : own_st3 p1 p2 p3 p4 p5 N vf), own_Gl p e below s (own_Q_own_law Z p1 p2 p3 p4 p5 p6 h0 n0) room_1.cells room_1.slots (T41.setTop (mkF m 74 #[.val (.int p1), .val (.int p2), .val (.int p3), .val (.int p4), .val (.int p5), .val (.int p6), .val (.ref b1), .val (.ref b9), .val (.ref b21), .val (.ref b34), .unset, .unset, .unset, .unset, .unset, .unset] [])) := by
    intro T41 LL41 N41 X41 h41 e41 N vf Zs41 Kj41 fj41_0 fj41_1 fj41_2 fj41_3 fj41_4 hst
    show own_Gl _ _ _ _ _ _ _ (T41.setTop (mkF m 74 #[.val (.int p1), .val (.int p2), .val (.int p3), .val (.int p4), .val (.int p5), .val (.int p6), .val (.ref b1), .val (.ref b9), .val (.ref b21), .val (.ref b34), .unset, .unset, .unset, .unset, .unset, .unset] []))
    have J91_42 : ∀ (T42 : State) (LL42 : List Loc) (N42 : Fr n0 LL42) (X42 : Stand p l e room_1 s m #[(.int p1), (.int p2), (.int p3), (.int p4), (.int p5), (.int p6)] below meth c T42 LL42 7 67) (e42 : T42.heap = h41) (n1 : Int32) (hn1 : n1 = own_n1 p1 p2 p3 p4), own_Gl p e below s (own_Q_own_law Z p1 p2 p3 p4 p5 p6 h0 n0) room_1.cells room_1.slots (T42.setTop (mkF m 91 #[.val (.int p1), .val (.int p2), .val (.int p3), .val (.int p4), .val (.int p5), .val (.int p6), .val (.ref b1), .val (.ref b9), .val (.ref b21), .val (.ref b34), .val (.int n1), .unset, .unset, .unset, .unset, .unset] [])) := by
      intro T42 LL42 N42 X42 e42 n1 hn1
      show own_Gl _ _ _ _ _ _ _ (T42.setTop (mkF m 91 #[.val (.int p1), .val (.int p2), .val (.int p3), .val (.int p4), .val (.int p5), .val (.int p6), .val (.ref b1), .val (.ref b9), .val (.ref b21), .val (.ref b34), .val (.int n1), .unset, .unset, .unset, .unset, .unset] []))
      have J115_43 : ∀ (T43 : State) (LL43 : List Loc) (N43 : Fr n0 LL43) (X43 : Stand p l e room_1 s m #[(.int p1), (.int p2), (.int p3), (.int p4), (.int p5), (.int p6)] below meth c T43 LL43 7 67) (e43 : T43.heap = h41) (n2 : Int32) (hn2 : n2 = own_n2 p1 p2 p3 p4 p5), own_Gl p e below s (own_Q_own_law Z p1 p2 p3 p4 p5 p6 h0 n0) room_1.cells room_1.slots (T43.setTop (mkF m 115 #[.val (.int p1), .val (.int p2), .val (.int p3), .val (.int p4), .val (.int p5), .val (.int p6), .val (.ref b1), .val (.ref b9), .val (.ref b21), .val (.ref b34), .val (.int n1), .val (.int n2), .unset, .unset, .unset, .unset] [])) := by
        intro T43 LL43 N43 X43 e43 n2 hn2
        show own_Gl _ _ _ _ _ _ _ (T43.setTop (mkF m 115 #[.val (.int p1), .val (.int p2), .val (.int p3), .val (.int p4), .val (.int p5), .val (.int p6), .val (.ref b1), .val (.ref b9), .val (.ref b21), .val (.ref b34), .val (.int n1), .val (.int n2), .unset, .unset, .unset, .unset] []))
        refine own_st (fun _ k => XS.iconst X43.here hx rfl (hb hby at_115) k) ?_
        show own_Gl _ _ _ _ _ _ _ (T43.setTop (mkF m 116 #[.val (.int p1), .val (.int p2), .val (.int p3), .val (.int p4), .val (.int p5), .val (.int p6), .val (.ref b1), .val (.ref b9), .val (.ref b21), .val (.ref b34), .val (.int n1), .val (.int n2), .unset, .unset, .unset, .unset] [(.int (1 : Int32))]))
        refine own_st (fun _ k => XS.iload X43.here hx rfl (hb hby at_116) rfl k) ?_
        show own_Gl _ _ _ _ _ _ _ (T43.setTop (mkF m 118 #[.val (.int p1), .val (.int p2), .val (.int p3), .val (.int p4), .val (.int p5), .val (.int p6), .val (.ref b1), .val (.ref b9), .val (.ref b21), .val (.ref b34), .val (.int n1), .val (.int n2), .unset, .unset, .unset, .unset] [(.int n1), (.int (1 : Int32))]))
        refine own_st (fun _ k => XS.iadd X43.here hx rfl (hb hby at_118) rfl k) ?_
        show own_Gl _ _ _ _ _ _ _ (T43.setTop (mkF m 119 #[.val (.int p1), .val (.int p2), .val (.int p3), .val (.int p4), .val (.int p5), .val (.int p6), .val (.ref b1), .val (.ref b9), .val (.ref b21), .val (.ref b34), .val (.int n1), .val (.int n2), .unset, .unset, .unset, .unset] [(.int ((1 : Int32) + n1))]))
        refine own_st (fun _ k => XS.iload X43.here hx rfl (hb hby at_119) rfl k) ?_
        show own_Gl _ _ _ _ _ _ _ (T43.setTop (mkF m 121 #[.val (.int p1), .val (.int p2), .val (.int p3), .val (.int p4), .val (.int p5), .val (.int p6), .val (.ref b1), .val (.ref b9), .val (.ref b21), .val (.ref b34), .val (.int n1), .val (.int n2), .unset, .unset, .unset, .unset] [(.int n2), (.int ((1 : Int32) + n1))]))
        refine own_st (fun _ k => XS.iadd X43.here hx rfl (hb hby at_121) rfl k) ?_
        show own_Gl _ _ _ _ _ _ _ (T43.setTop (mkF m 122 #[.val (.int p1), .val (.int p2), .val (.int p3), .val (.int p4), .val (.int p5), .val (.int p6), .val (.ref b1), .val (.ref b9), .val (.ref b21), .val (.ref b34), .val (.int n1), .val (.int n2), .unset, .unset, .unset, .unset] [(.int (((1 : Int32) + n1) + n2))]))
        refine own_st (fun _ k => XS.istore X43.here hx rfl (hb hby at_122) rfl (l' := #[.val (.int p1), .val (.int p2), .val (.int p3), .val (.int p4), .val (.int p5), .val (.int p6), .val (.ref b1), .val (.ref b9), .val (.ref b21), .val (.ref b34), .val (.int n1), .val (.int n2), .val (.int (((1 : Int32) + n1) + n2)), .unset, .unset, .unset]) rfl k) ?_
        show own_Gl _ _ _ _ _ _ _ (T43.setTop (mkF m 124 #[.val (.int p1), .val (.int p2), .val (.int p3), .val (.int p4), .val (.int p5), .val (.int p6), .val (.ref b1), .val (.ref b9), .val (.ref b21), .val (.ref b34), .val (.int n1), .val (.int n2), .val (.int (((1 : Int32) + n1) + n2)), .unset, .unset, .unset] []))
        have hL : (((1 : Int32) + n1) + n2) = N := by rw [hn1, hn2]; exact hst.1.symm
        rw [hL]
        have hNv := own_Nv hst
        show own_Gl _ _ _ _ _ _ _ (T43.setTop (mkF m 124 #[.val (.int p1), .val (.int p2), .val (.int p3), .val (.int p4), .val (.int p5), .val (.int p6), .val (.ref b1), .val (.ref b9), .val (.ref b21), .val (.ref b34), .val (.int n1), .val (.int n2), .val (.int N), .unset, .unset, .unset] []))
        refine own_st (fun _ k => XS.iload X43.here hx rfl (hb hby at_124) rfl k) ?_
        show own_Gl _ _ _ _ _ _ _ (T43.setTop (mkF m 126 #[.val (.int p1), .val (.int p2), .val (.int p3), .val (.int p4), .val (.int p5), .val (.int p6), .val (.ref b1), .val (.ref b9), .val (.ref b21), .val (.ref b34), .val (.int n1), .val (.int n2), .val (.int N), .unset, .unset, .unset] [(.int p6)]))
        refine own_st (fun _ k => XS.iconst X43.here hx rfl (hb hby at_126) k) ?_
        show own_Gl _ _ _ _ _ _ _ (T43.setTop (mkF m 127 #[.val (.int p1), .val (.int p2), .val (.int p3), .val (.int p4), .val (.int p5), .val (.int p6), .val (.ref b1), .val (.ref b9), .val (.ref b21), .val (.ref b34), .val (.int n1), .val (.int n2), .val (.int N), .unset, .unset, .unset] [(.int (1 : Int32)), (.int p6)]))
        refine own_st (fun _ k => XS.iushr X43.here hx rfl (hb hby at_127) rfl k) ?_
        show own_Gl _ _ _ _ _ _ _ (T43.setTop (mkF m 128 #[.val (.int p1), .val (.int p2), .val (.int p3), .val (.int p4), .val (.int p5), .val (.int p6), .val (.ref b1), .val (.ref b9), .val (.ref b21), .val (.ref b34), .val (.int n1), .val (.int n2), .val (.int N), .unset, .unset, .unset] [(.int ((p6.toUInt32 >>> ((1 : Int32) &&& 31).toUInt32).toInt32))]))
        refine own_st (fun _ k => XS.iload X43.here hx rfl (hb hby at_128) rfl k) ?_
        show own_Gl _ _ _ _ _ _ _ (T43.setTop (mkF m 130 #[.val (.int p1), .val (.int p2), .val (.int p3), .val (.int p4), .val (.int p5), .val (.int p6), .val (.ref b1), .val (.ref b9), .val (.ref b21), .val (.ref b34), .val (.int n1), .val (.int n2), .val (.int N), .unset, .unset, .unset] [(.int N), (.int ((p6.toUInt32 >>> ((1 : Int32) &&& 31).toUInt32).toInt32))]))
        refine own_st (fun _ k => iremM X43 hx rfl (hb hby at_130) rfl (by rcases hNv with q | q | q <;> rw [q] <;> decide) k) ?_
        show own_Gl _ _ _ _ _ _ _ (T43.setTop (mkF m 131 #[.val (.int p1), .val (.int p2), .val (.int p3), .val (.int p4), .val (.int p5), .val (.int p6), .val (.ref b1), .val (.ref b9), .val (.ref b21), .val (.ref b34), .val (.int n1), .val (.int n2), .val (.int N), .unset, .unset, .unset] [(.int (((p6.toUInt32 >>> ((1 : Int32) &&& 31).toUInt32).toInt32) % N))]))
        refine own_st (fun _ k => XS.istore X43.here hx rfl (hb hby at_131) rfl (l' := #[.val (.int p1), .val (.int p2), .val (.int p3), .val (.int p4), .val (.int p5), .val (.int p6), .val (.ref b1), .val (.ref b9), .val (.ref b21), .val (.ref b34), .val (.int n1), .val (.int n2), .val (.int N), .val (.int (((p6.toUInt32 >>> ((1 : Int32) &&& 31).toUInt32).toInt32) % N)), .unset, .unset]) rfl k) ?_
        show own_Gl _ _ _ _ _ _ _ (T43.setTop (mkF m 133 #[.val (.int p1), .val (.int p2), .val (.int p3), .val (.int p4), .val (.int p5), .val (.int p6), .val (.ref b1), .val (.ref b9), .val (.ref b21), .val (.ref b34), .val (.int n1), .val (.int n2), .val (.int N), .val (.int (((p6.toUInt32 >>> ((1 : Int32) &&& 31).toUInt32).toInt32) % N)), .unset, .unset] []))
        obtain ⟨row, hrw⟩ : ∃ q, q = (((p6.toUInt32 >>> ((1 : Int32) &&& 31).toUInt32).toInt32) % N) := ⟨_, rfl⟩
        rw [← hrw]
        have hr : ¬ row < 0 ∧ row < N := by rw [hrw]; exact own_row _ hNv
        show own_Gl _ _ _ _ _ _ _ (T43.setTop (mkF m 133 #[.val (.int p1), .val (.int p2), .val (.int p3), .val (.int p4), .val (.int p5), .val (.int p6), .val (.ref b1), .val (.ref b9), .val (.ref b21), .val (.ref b34), .val (.int n1), .val (.int n2), .val (.int N), .val (.int row), .unset, .unset] []))
        refine own_st (fun _ k => XS.iload X43.here hx rfl (hb hby at_133) rfl k) ?_
        show own_Gl _ _ _ _ _ _ _ (T43.setTop (mkF m 135 #[.val (.int p1), .val (.int p2), .val (.int p3), .val (.int p4), .val (.int p5), .val (.int p6), .val (.ref b1), .val (.ref b9), .val (.ref b21), .val (.ref b34), .val (.int n1), .val (.int n2), .val (.int N), .val (.int row), .unset, .unset] [(.int p6)]))
        refine own_st (fun _ k => XS.iconst X43.here hx rfl (hb hby at_135) k) ?_
        show own_Gl _ _ _ _ _ _ _ (T43.setTop (mkF m 136 #[.val (.int p1), .val (.int p2), .val (.int p3), .val (.int p4), .val (.int p5), .val (.int p6), .val (.ref b1), .val (.ref b9), .val (.ref b21), .val (.ref b34), .val (.int n1), .val (.int n2), .val (.int N), .val (.int row), .unset, .unset] [(.int (1 : Int32)), (.int p6)]))
        refine own_st (fun _ k => XS.iand X43.here hx rfl (hb hby at_136) rfl k) ?_
        show own_Gl _ _ _ _ _ _ _ (T43.setTop (mkF m 137 #[.val (.int p1), .val (.int p2), .val (.int p3), .val (.int p4), .val (.int p5), .val (.int p6), .val (.ref b1), .val (.ref b9), .val (.ref b21), .val (.ref b34), .val (.int n1), .val (.int n2), .val (.int N), .val (.int row), .unset, .unset] [(.int (p6 &&& (1 : Int32)))]))
        refine own_st (fun _ k => XS.istore X43.here hx rfl (hb hby at_137) rfl (l' := #[.val (.int p1), .val (.int p2), .val (.int p3), .val (.int p4), .val (.int p5), .val (.int p6), .val (.ref b1), .val (.ref b9), .val (.ref b21), .val (.ref b34), .val (.int n1), .val (.int n2), .val (.int N), .val (.int row), .val (.int (p6 &&& (1 : Int32))), .unset]) rfl k) ?_
        show own_Gl _ _ _ _ _ _ _ (T43.setTop (mkF m 139 #[.val (.int p1), .val (.int p2), .val (.int p3), .val (.int p4), .val (.int p5), .val (.int p6), .val (.ref b1), .val (.ref b9), .val (.ref b21), .val (.ref b34), .val (.int n1), .val (.int n2), .val (.int N), .val (.int row), .val (.int (p6 &&& (1 : Int32))), .unset] []))
        obtain ⟨col, hcl⟩ : ∃ q, q = (p6 &&& (1 : Int32)) := ⟨_, rfl⟩
        rw [← hcl]
        have hcol : col = (0 : Int32) ∨ col = (1 : Int32) := by rw [hcl]; exact own_col _
        show own_Gl _ _ _ _ _ _ _ (T43.setTop (mkF m 139 #[.val (.int p1), .val (.int p2), .val (.int p3), .val (.int p4), .val (.int p5), .val (.int p6), .val (.ref b1), .val (.ref b9), .val (.ref b21), .val (.ref b34), .val (.int n1), .val (.int n2), .val (.int N), .val (.int row), .val (.int col), .unset] []))
        have J215_44 : ∀ (T44 : State) (LL44 : List Loc) (N44 : Fr n0 LL44) (X44 : Stand p l e room_1 s m #[(.int p1), (.int p2), (.int p3), (.int p4), (.int p5), (.int p6)] below meth c T44 LL44 7 67) (e44 : T44.heap = h41) (ex : Int32) (hex : ex = vf (2 * row.toNatClampNeg + col.toNatClampNeg)), own_Gl p e below s (own_Q_own_law Z p1 p2 p3 p4 p5 p6 h0 n0) room_1.cells room_1.slots (T44.setTop (mkF m 215 #[.val (.int p1), .val (.int p2), .val (.int p3), .val (.int p4), .val (.int p5), .val (.int p6), .val (.ref b1), .val (.ref b9), .val (.ref b21), .val (.ref b34), .val (.int n1), .val (.int n2), .val (.int N), .val (.int row), .val (.int col), .val (.int ex)] [])) := by
          intro T44 LL44 N44 X44 e44 ex hex
          show own_Gl _ _ _ _ _ _ _ (T44.setTop (mkF m 215 #[.val (.int p1), .val (.int p2), .val (.int p3), .val (.int p4), .val (.int p5), .val (.int p6), .val (.ref b1), .val (.ref b9), .val (.ref b21), .val (.ref b34), .val (.int n1), .val (.int n2), .val (.int N), .val (.int row), .val (.int col), .val (.int ex)] []))
          refine own_st (fun _ k => XS.aload X44.here hx rfl (hb hby at_215) rfl rfl k) ?_
          show own_Gl _ _ _ _ _ _ _ (T44.setTop (mkF m 217 #[.val (.int p1), .val (.int p2), .val (.int p3), .val (.int p4), .val (.int p5), .val (.int p6), .val (.ref b1), .val (.ref b9), .val (.ref b21), .val (.ref b34), .val (.int n1), .val (.int n2), .val (.int N), .val (.int row), .val (.int col), .val (.int ex)] [(.ref b1)]))
          obtain ⟨cq45, kq45, q45a, q45b, q45c⟩ := isOf hZ e44 fj41_4
          obtain ⟨_, _, ⟨T45, L45, k45, n45⟩, -, X45, ⟨Lc45, hQ45, l45, y45, z45⟩, st45⟩ := X44.virtualBack hx (y := (⟨"com/example/lehti/lehti/eval/Relation", "size", "()I"⟩ : MethodName)) (z := (⟨"com/example/lehti/lehti/eval/Relation", "size", "()I"⟩ : MethodName)) hown (mvT hZ (hw _ (List.mem_of_getElem? (i := 72) rfl))) (mvT hZ (hw _ (List.mem_of_getElem? (i := 73) rfl))) (notFace_of_selects (args := #[]) (mvT hZ (hw _ (List.mem_of_getElem? (i := 75) rfl)))) (mvT hZ (hw _ (List.mem_of_getElem? (i := 75) rfl))) (mvT hZ (hw _ (List.mem_of_getElem? (i := 74) rfl))) (by decide) (backOf (W := 0) (own_rsize l Z a0 hw [] b1 N h41 n0 Zs41 fj41_0) hZ (hw _ (List.mem_of_getElem? (i := 76) rfl)) (hw _ (List.mem_of_getElem? (i := 2) rfl)) (by decide) (by decide)) q45a q45c (g := (mkF m 217 #[.val (.int p1), .val (.int p2), .val (.int p3), .val (.int p4), .val (.int p5), .val (.int p6), .val (.ref b1), .val (.ref b9), .val (.ref b21), .val (.ref b34), .val (.int n1), .val (.int n2), .val (.int N), .val (.int row), .val (.int col), .val (.int ex)] [(.ref b1)])) rfl (by rw [hml]; rfl) (Steps.refl _) (argsL := []) (rest := []) (lenOf own_pd691884 rfl) rfl (by show 2 * 0 + _ ≤ _; exact Nat.le_of_eq rfl) (hb hby at_217) (fun _ _ => ⟨rfl, e44, (by decide : 7 + 0 ≤ room_1.cells), (by decide : 67 + 0 ≤ room_1.slots)⟩)
          dsimp only [Pt.U, Pt.locs, Pt.cells, Pt.slots] at X45 l45 y45 z45 st45 hQ45
          subst l45 y45 z45
          obtain ⟨hh45, eh045⟩ : ∃ z, T45.heap = z := ⟨_, rfl⟩
          rw [eh045] at hQ45
          obtain ⟨rfl, Nq45, eh45⟩ := hQ45
          have N45 := Fr.app N44 Nq45
          refine own_tr st45 ?_
          have e45 : T45.heap = h41 := eh045.trans eh45
          show own_Gl _ _ _ _ _ _ _ (T45.setTop (mkF m 220 #[.val (.int p1), .val (.int p2), .val (.int p3), .val (.int p4), .val (.int p5), .val (.int p6), .val (.ref b1), .val (.ref b9), .val (.ref b21), .val (.ref b34), .val (.int n1), .val (.int n2), .val (.int N), .val (.int row), .val (.int col), .val (.int ex)] [(.int N)]))
          refine own_st (fun _ k => XS.iload X45.here hx rfl (hb hby at_220) rfl k) ?_
          show own_Gl _ _ _ _ _ _ _ (T45.setTop (mkF m 222 #[.val (.int p1), .val (.int p2), .val (.int p3), .val (.int p4), .val (.int p5), .val (.int p6), .val (.ref b1), .val (.ref b9), .val (.ref b21), .val (.ref b34), .val (.int n1), .val (.int n2), .val (.int N), .val (.int row), .val (.int col), .val (.int ex)] [(.int N), (.int N)]))
          have hd46 : N = N := (rfl)
          refine own_st (fun _ k => XS.icmpNo X45.here hx rfl (hb hby at_222) rfl (teq hd46).2 k) ?_
          show own_Gl _ _ _ _ _ _ _ (T45.setTop (mkF m 225 #[.val (.int p1), .val (.int p2), .val (.int p3), .val (.int p4), .val (.int p5), .val (.int p6), .val (.ref b1), .val (.ref b9), .val (.ref b21), .val (.ref b34), .val (.int n1), .val (.int n2), .val (.int N), .val (.int row), .val (.int col), .val (.int ex)] []))
          refine own_st (fun _ k => XS.aload X45.here hx rfl (hb hby at_225) rfl rfl k) ?_
          show own_Gl _ _ _ _ _ _ _ (T45.setTop (mkF m 227 #[.val (.int p1), .val (.int p2), .val (.int p3), .val (.int p4), .val (.int p5), .val (.int p6), .val (.ref b1), .val (.ref b9), .val (.ref b21), .val (.ref b34), .val (.int n1), .val (.int n2), .val (.int N), .val (.int row), .val (.int col), .val (.int ex)] [(.ref b1)]))
          refine own_st (fun _ k => XS.iload X45.here hx rfl (hb hby at_227) rfl k) ?_
          show own_Gl _ _ _ _ _ _ _ (T45.setTop (mkF m 229 #[.val (.int p1), .val (.int p2), .val (.int p3), .val (.int p4), .val (.int p5), .val (.int p6), .val (.ref b1), .val (.ref b9), .val (.ref b21), .val (.ref b34), .val (.int n1), .val (.int n2), .val (.int N), .val (.int row), .val (.int col), .val (.int ex)] [(.int row), (.ref b1)]))
          refine own_st (fun _ k => XS.iload X45.here hx rfl (hb hby at_229) rfl k) ?_
          show own_Gl _ _ _ _ _ _ _ (T45.setTop (mkF m 231 #[.val (.int p1), .val (.int p2), .val (.int p3), .val (.int p4), .val (.int p5), .val (.int p6), .val (.ref b1), .val (.ref b9), .val (.ref b21), .val (.ref b34), .val (.int n1), .val (.int n2), .val (.int N), .val (.int row), .val (.int col), .val (.int ex)] [(.int col), (.int row), (.ref b1)]))
          obtain ⟨cq47, kq47, q47a, q47b, q47c⟩ := isOf hZ e45 fj41_4
          obtain ⟨_, _, ⟨T47, L47, k47, n47⟩, -, X47, ⟨Lc47, hQ47, l47, y47, z47⟩, st47⟩ := X45.virtualBack hx (y := (⟨"com/example/lehti/lehti/eval/Relation", "get", "(II)I"⟩ : MethodName)) (z := (⟨"com/example/lehti/lehti/eval/Relation", "get", "(II)I"⟩ : MethodName)) hown (mvT hZ (hw _ (List.mem_of_getElem? (i := 77) rfl))) (mvT hZ (hw _ (List.mem_of_getElem? (i := 78) rfl))) (notFace_of_selects (args := #[]) (mvT hZ (hw _ (List.mem_of_getElem? (i := 80) rfl)))) (mvT hZ (hw _ (List.mem_of_getElem? (i := 80) rfl))) (mvT hZ (hw _ (List.mem_of_getElem? (i := 79) rfl))) (by decide) (backOf (W := 0) (own_rget l Z a0 hw [] b1 row col N vb_4 kv_4 vf h41 n0 Zs41 fj41_0 fj41_1 fj41_2 fj41_3 hr (own_rowb hNv hr) hcol) hZ (hw _ (List.mem_of_getElem? (i := 81) rfl)) (hw _ (List.mem_of_getElem? (i := 2) rfl)) (by decide) (by decide)) q47a q47c (g := (mkF m 231 #[.val (.int p1), .val (.int p2), .val (.int p3), .val (.int p4), .val (.int p5), .val (.int p6), .val (.ref b1), .val (.ref b9), .val (.ref b21), .val (.ref b34), .val (.int n1), .val (.int n2), .val (.int N), .val (.int row), .val (.int col), .val (.int ex)] [(.int col), (.int row), (.ref b1)])) rfl (by rw [hml]; rfl) (Steps.refl _) (argsL := [(.int row), (.int col)]) (rest := []) (lenOf own_pd945365680 rfl) rfl (by show 2 * 0 + _ ≤ _; exact Nat.le_of_eq rfl) (hb hby at_231) (fun _ _ => ⟨rfl, e45, (by decide : 7 + 0 ≤ room_1.cells), (by decide : 67 + 0 ≤ room_1.slots)⟩)
          dsimp only [Pt.U, Pt.locs, Pt.cells, Pt.slots] at X47 l47 y47 z47 st47 hQ47
          subst l47 y47 z47
          obtain ⟨hh47, eh047⟩ : ∃ z, T47.heap = z := ⟨_, rfl⟩
          rw [eh047] at hQ47
          obtain ⟨rfl, Nq47, eh47⟩ := hQ47
          have N47 := Fr.app N45 Nq47
          refine own_tr st47 ?_
          have e47 : T47.heap = h41 := eh047.trans eh47
          show own_Gl _ _ _ _ _ _ _ (T47.setTop (mkF m 234 #[.val (.int p1), .val (.int p2), .val (.int p3), .val (.int p4), .val (.int p5), .val (.int p6), .val (.ref b1), .val (.ref b9), .val (.ref b21), .val (.ref b34), .val (.int n1), .val (.int n2), .val (.int N), .val (.int row), .val (.int col), .val (.int ex)] [(.int (vf (2 * row.toNatClampNeg + col.toNatClampNeg)))]))
          refine own_st (fun _ k => XS.iload X47.here hx rfl (hb hby at_234) rfl k) ?_
          show own_Gl _ _ _ _ _ _ _ (T47.setTop (mkF m 236 #[.val (.int p1), .val (.int p2), .val (.int p3), .val (.int p4), .val (.int p5), .val (.int p6), .val (.ref b1), .val (.ref b9), .val (.ref b21), .val (.ref b34), .val (.int n1), .val (.int n2), .val (.int N), .val (.int row), .val (.int col), .val (.int ex)] [(.int ex), (.int (vf (2 * row.toNatClampNeg + col.toNatClampNeg)))]))
          have hd48 : (vf (2 * row.toNatClampNeg + col.toNatClampNeg)) = ex := hex.symm
          refine own_st (fun _ k => XS.icmpNo X47.here hx rfl (hb hby at_236) rfl (teq hd48).2 k) ?_
          show own_Gl _ _ _ _ _ _ _ (T47.setTop (mkF m 239 #[.val (.int p1), .val (.int p2), .val (.int p3), .val (.int p4), .val (.int p5), .val (.int p6), .val (.ref b1), .val (.ref b9), .val (.ref b21), .val (.ref b34), .val (.int n1), .val (.int n2), .val (.int N), .val (.int row), .val (.int col), .val (.int ex)] []))
          refine own_st (fun _ k => XS.iconst X47.here hx rfl (hb hby at_239) k) ?_
          show own_Gl _ _ _ _ _ _ _ (T47.setTop (mkF m 240 #[.val (.int p1), .val (.int p2), .val (.int p3), .val (.int p4), .val (.int p5), .val (.int p6), .val (.ref b1), .val (.ref b9), .val (.ref b21), .val (.ref b34), .val (.int n1), .val (.int n2), .val (.int N), .val (.int row), .val (.int col), .val (.int ex)] [(.int (1 : Int32))]))
          refine own_st (fun _ k => XS.goto X47.here hx rfl (pc0 := 240) (pc' := 244) rfl (hb hby at_240) (by decide) (by decide) k) ?_
          show own_Gl _ _ _ _ _ _ _ (T47.setTop (mkF m 244 #[.val (.int p1), .val (.int p2), .val (.int p3), .val (.int p4), .val (.int p5), .val (.int p6), .val (.ref b1), .val (.ref b9), .val (.ref b21), .val (.ref b34), .val (.int n1), .val (.int n2), .val (.int N), .val (.int row), .val (.int col), .val (.int ex)] [(.int (1 : Int32))]))
          exact own_retN X47 hx hlk (t := .boolean) hret (by simp) (hb hby at_244) e47 ⟨rfl, N47⟩ (by decide) (by decide)
        refine own_st (fun _ k => XS.iload X43.here hx rfl (hb hby at_139) rfl k) ?_
        show own_Gl _ _ _ _ _ _ _ (T43.setTop (mkF m 141 #[.val (.int p1), .val (.int p2), .val (.int p3), .val (.int p4), .val (.int p5), .val (.int p6), .val (.ref b1), .val (.ref b9), .val (.ref b21), .val (.ref b34), .val (.int n1), .val (.int n2), .val (.int N), .val (.int row), .val (.int col), .unset] [(.int row)]))
        by_cases hc141 : row = (0 : Int32)
        · refine own_st (fun _ k => XS.ifNo X43.here hx rfl (hb hby at_141) rfl ((if0 _ _).trans (teq hc141).2) k) ?_
          show own_Gl _ _ _ _ _ _ _ (T43.setTop (mkF m 144 #[.val (.int p1), .val (.int p2), .val (.int p3), .val (.int p4), .val (.int p5), .val (.int p6), .val (.ref b1), .val (.ref b9), .val (.ref b21), .val (.ref b34), .val (.int n1), .val (.int n2), .val (.int N), .val (.int row), .val (.int col), .unset] []))
          refine own_st (fun _ k => XS.iload X43.here hx rfl (hb hby at_144) rfl k) ?_
          show own_Gl _ _ _ _ _ _ _ (T43.setTop (mkF m 146 #[.val (.int p1), .val (.int p2), .val (.int p3), .val (.int p4), .val (.int p5), .val (.int p6), .val (.ref b1), .val (.ref b9), .val (.ref b21), .val (.ref b34), .val (.int n1), .val (.int n2), .val (.int N), .val (.int row), .val (.int col), .unset] [(.int col)]))
          by_cases hc146 : col = (0 : Int32)
          · refine own_st (fun _ k => XS.ifNo X43.here hx rfl (hb hby at_146) rfl ((if0 _ _).trans (teq hc146).2) k) ?_
            show own_Gl _ _ _ _ _ _ _ (T43.setTop (mkF m 149 #[.val (.int p1), .val (.int p2), .val (.int p3), .val (.int p4), .val (.int p5), .val (.int p6), .val (.ref b1), .val (.ref b9), .val (.ref b21), .val (.ref b34), .val (.int n1), .val (.int n2), .val (.int N), .val (.int row), .val (.int col), .unset] []))
            refine own_st (fun _ k => XS.iloadN X43.here hx rfl (hb hby at_149) rfl k) ?_
            show own_Gl _ _ _ _ _ _ _ (T43.setTop (mkF m 150 #[.val (.int p1), .val (.int p2), .val (.int p3), .val (.int p4), .val (.int p5), .val (.int p6), .val (.ref b1), .val (.ref b9), .val (.ref b21), .val (.ref b34), .val (.int n1), .val (.int n2), .val (.int N), .val (.int row), .val (.int col), .unset] [(.int p1)]))
            refine own_st (fun _ k => XS.goto X43.here hx rfl (pc0 := 150) (pc' := 154) rfl (hb hby at_150) (by decide) (by decide) k) ?_
            show own_Gl _ _ _ _ _ _ _ (T43.setTop (mkF m 154 #[.val (.int p1), .val (.int p2), .val (.int p3), .val (.int p4), .val (.int p5), .val (.int p6), .val (.ref b1), .val (.ref b9), .val (.ref b21), .val (.ref b34), .val (.int n1), .val (.int n2), .val (.int N), .val (.int row), .val (.int col), .unset] [(.int p1)]))
            refine own_st (fun _ k => XS.istore X43.here hx rfl (hb hby at_154) rfl (l' := #[.val (.int p1), .val (.int p2), .val (.int p3), .val (.int p4), .val (.int p5), .val (.int p6), .val (.ref b1), .val (.ref b9), .val (.ref b21), .val (.ref b34), .val (.int n1), .val (.int n2), .val (.int N), .val (.int row), .val (.int col), .val (.int p1)]) rfl k) ?_
            show own_Gl _ _ _ _ _ _ _ (T43.setTop (mkF m 156 #[.val (.int p1), .val (.int p2), .val (.int p3), .val (.int p4), .val (.int p5), .val (.int p6), .val (.ref b1), .val (.ref b9), .val (.ref b21), .val (.ref b34), .val (.int n1), .val (.int n2), .val (.int N), .val (.int row), .val (.int col), .val (.int p1)] []))
            refine own_st (fun _ k => XS.goto X43.here hx rfl (pc0 := 156) (pc' := 215) rfl (hb hby at_156) (by decide) (by decide) k) ?_
            show own_Gl _ _ _ _ _ _ _ (T43.setTop (mkF m 215 #[.val (.int p1), .val (.int p2), .val (.int p3), .val (.int p4), .val (.int p5), .val (.int p6), .val (.ref b1), .val (.ref b9), .val (.ref b21), .val (.ref b34), .val (.int n1), .val (.int n2), .val (.int N), .val (.int row), .val (.int col), .val (.int p1)] []))
            show own_Gl _ _ _ _ _ _ _ (T43.setTop (mkF m 215 #[.val (.int p1), .val (.int p2), .val (.int p3), .val (.int p4), .val (.int p5), .val (.int p6), .val (.ref b1), .val (.ref b9), .val (.ref b21), .val (.ref b34), .val (.int n1), .val (.int n2), .val (.int N), .val (.int row), .val (.int col), .val (.int p1)] []))
            exact J215_44 T43 _ N43 X43 e43 (p1) (by rw [hc141, hc146]; exact hst.2.1.symm)
          · refine own_st (fun _ k => XS.ifYes X43.here hx rfl (pc0 := 146) (pc' := 153) rfl (hb hby at_146) rfl ((if0 _ _).trans (feq hc146).2) (by decide) (by decide) k) ?_
            show own_Gl _ _ _ _ _ _ _ (T43.setTop (mkF m 153 #[.val (.int p1), .val (.int p2), .val (.int p3), .val (.int p4), .val (.int p5), .val (.int p6), .val (.ref b1), .val (.ref b9), .val (.ref b21), .val (.ref b34), .val (.int n1), .val (.int n2), .val (.int N), .val (.int row), .val (.int col), .unset] []))
            refine own_st (fun _ k => XS.iloadN X43.here hx rfl (hb hby at_153) rfl k) ?_
            show own_Gl _ _ _ _ _ _ _ (T43.setTop (mkF m 154 #[.val (.int p1), .val (.int p2), .val (.int p3), .val (.int p4), .val (.int p5), .val (.int p6), .val (.ref b1), .val (.ref b9), .val (.ref b21), .val (.ref b34), .val (.int n1), .val (.int n2), .val (.int N), .val (.int row), .val (.int col), .unset] [(.int p2)]))
            refine own_st (fun _ k => XS.istore X43.here hx rfl (hb hby at_154) rfl (l' := #[.val (.int p1), .val (.int p2), .val (.int p3), .val (.int p4), .val (.int p5), .val (.int p6), .val (.ref b1), .val (.ref b9), .val (.ref b21), .val (.ref b34), .val (.int n1), .val (.int n2), .val (.int N), .val (.int row), .val (.int col), .val (.int p2)]) rfl k) ?_
            show own_Gl _ _ _ _ _ _ _ (T43.setTop (mkF m 156 #[.val (.int p1), .val (.int p2), .val (.int p3), .val (.int p4), .val (.int p5), .val (.int p6), .val (.ref b1), .val (.ref b9), .val (.ref b21), .val (.ref b34), .val (.int n1), .val (.int n2), .val (.int N), .val (.int row), .val (.int col), .val (.int p2)] []))
            refine own_st (fun _ k => XS.goto X43.here hx rfl (pc0 := 156) (pc' := 215) rfl (hb hby at_156) (by decide) (by decide) k) ?_
            show own_Gl _ _ _ _ _ _ _ (T43.setTop (mkF m 215 #[.val (.int p1), .val (.int p2), .val (.int p3), .val (.int p4), .val (.int p5), .val (.int p6), .val (.ref b1), .val (.ref b9), .val (.ref b21), .val (.ref b34), .val (.int n1), .val (.int n2), .val (.int N), .val (.int row), .val (.int col), .val (.int p2)] []))
            show own_Gl _ _ _ _ _ _ _ (T43.setTop (mkF m 215 #[.val (.int p1), .val (.int p2), .val (.int p3), .val (.int p4), .val (.int p5), .val (.int p6), .val (.ref b1), .val (.ref b9), .val (.ref b21), .val (.ref b34), .val (.int n1), .val (.int n2), .val (.int N), .val (.int row), .val (.int col), .val (.int p2)] []))
            exact J215_44 T43 _ N43 X43 e43 (p2) (by rw [hc141, hcol.resolve_left hc146]; exact hst.2.2.1.symm)
        · refine own_st (fun _ k => XS.ifYes X43.here hx rfl (pc0 := 141) (pc' := 159) rfl (hb hby at_141) rfl ((if0 _ _).trans (feq hc141).2) (by decide) (by decide) k) ?_
          show own_Gl _ _ _ _ _ _ _ (T43.setTop (mkF m 159 #[.val (.int p1), .val (.int p2), .val (.int p3), .val (.int p4), .val (.int p5), .val (.int p6), .val (.ref b1), .val (.ref b9), .val (.ref b21), .val (.ref b34), .val (.int n1), .val (.int n2), .val (.int N), .val (.int row), .val (.int col), .unset] []))
          refine own_st (fun _ k => XS.iload X43.here hx rfl (hb hby at_159) rfl k) ?_
          show own_Gl _ _ _ _ _ _ _ (T43.setTop (mkF m 161 #[.val (.int p1), .val (.int p2), .val (.int p3), .val (.int p4), .val (.int p5), .val (.int p6), .val (.ref b1), .val (.ref b9), .val (.ref b21), .val (.ref b34), .val (.int n1), .val (.int n2), .val (.int N), .val (.int row), .val (.int col), .unset] [(.int row)]))
          refine own_st (fun _ k => XS.iconst X43.here hx rfl (hb hby at_161) k) ?_
          show own_Gl _ _ _ _ _ _ _ (T43.setTop (mkF m 162 #[.val (.int p1), .val (.int p2), .val (.int p3), .val (.int p4), .val (.int p5), .val (.int p6), .val (.ref b1), .val (.ref b9), .val (.ref b21), .val (.ref b34), .val (.int n1), .val (.int n2), .val (.int N), .val (.int row), .val (.int col), .unset] [(.int (1 : Int32)), (.int row)]))
          by_cases hc162 : row = (1 : Int32)
          · refine own_st (fun _ k => XS.icmpNo X43.here hx rfl (hb hby at_162) rfl (teq hc162).2 k) ?_
            show own_Gl _ _ _ _ _ _ _ (T43.setTop (mkF m 165 #[.val (.int p1), .val (.int p2), .val (.int p3), .val (.int p4), .val (.int p5), .val (.int p6), .val (.ref b1), .val (.ref b9), .val (.ref b21), .val (.ref b34), .val (.int n1), .val (.int n2), .val (.int N), .val (.int row), .val (.int col), .unset] []))
            refine own_st (fun _ k => XS.iload X43.here hx rfl (hb hby at_165) rfl k) ?_
            show own_Gl _ _ _ _ _ _ _ (T43.setTop (mkF m 167 #[.val (.int p1), .val (.int p2), .val (.int p3), .val (.int p4), .val (.int p5), .val (.int p6), .val (.ref b1), .val (.ref b9), .val (.ref b21), .val (.ref b34), .val (.int n1), .val (.int n2), .val (.int N), .val (.int row), .val (.int col), .unset] [(.int n1)]))
            refine own_st (fun _ k => XS.iconst X43.here hx rfl (hb hby at_167) k) ?_
            show own_Gl _ _ _ _ _ _ _ (T43.setTop (mkF m 168 #[.val (.int p1), .val (.int p2), .val (.int p3), .val (.int p4), .val (.int p5), .val (.int p6), .val (.ref b1), .val (.ref b9), .val (.ref b21), .val (.ref b34), .val (.int n1), .val (.int n2), .val (.int N), .val (.int row), .val (.int col), .unset] [(.int (1 : Int32)), (.int n1)]))
            by_cases hc168 : n1 = (1 : Int32)
            · refine own_st (fun _ k => XS.icmpNo X43.here hx rfl (hb hby at_168) rfl (teq hc168).2 k) ?_
              show own_Gl _ _ _ _ _ _ _ (T43.setTop (mkF m 171 #[.val (.int p1), .val (.int p2), .val (.int p3), .val (.int p4), .val (.int p5), .val (.int p6), .val (.ref b1), .val (.ref b9), .val (.ref b21), .val (.ref b34), .val (.int n1), .val (.int n2), .val (.int N), .val (.int row), .val (.int col), .unset] []))
              refine own_st (fun _ k => XS.iload X43.here hx rfl (hb hby at_171) rfl k) ?_
              show own_Gl _ _ _ _ _ _ _ (T43.setTop (mkF m 173 #[.val (.int p1), .val (.int p2), .val (.int p3), .val (.int p4), .val (.int p5), .val (.int p6), .val (.ref b1), .val (.ref b9), .val (.ref b21), .val (.ref b34), .val (.int n1), .val (.int n2), .val (.int N), .val (.int row), .val (.int col), .unset] [(.int col)]))
              by_cases hc173 : col = (0 : Int32)
              · refine own_st (fun _ k => XS.ifNo X43.here hx rfl (hb hby at_173) rfl ((if0 _ _).trans (teq hc173).2) k) ?_
                show own_Gl _ _ _ _ _ _ _ (T43.setTop (mkF m 176 #[.val (.int p1), .val (.int p2), .val (.int p3), .val (.int p4), .val (.int p5), .val (.int p6), .val (.ref b1), .val (.ref b9), .val (.ref b21), .val (.ref b34), .val (.int n1), .val (.int n2), .val (.int N), .val (.int row), .val (.int col), .unset] []))
                refine own_st (fun _ k => XS.iloadN X43.here hx rfl (hb hby at_176) rfl k) ?_
                show own_Gl _ _ _ _ _ _ _ (T43.setTop (mkF m 177 #[.val (.int p1), .val (.int p2), .val (.int p3), .val (.int p4), .val (.int p5), .val (.int p6), .val (.ref b1), .val (.ref b9), .val (.ref b21), .val (.ref b34), .val (.int n1), .val (.int n2), .val (.int N), .val (.int row), .val (.int col), .unset] [(.int p3)]))
                refine own_st (fun _ k => XS.goto X43.here hx rfl (pc0 := 177) (pc' := 181) rfl (hb hby at_177) (by decide) (by decide) k) ?_
                show own_Gl _ _ _ _ _ _ _ (T43.setTop (mkF m 181 #[.val (.int p1), .val (.int p2), .val (.int p3), .val (.int p4), .val (.int p5), .val (.int p6), .val (.ref b1), .val (.ref b9), .val (.ref b21), .val (.ref b34), .val (.int n1), .val (.int n2), .val (.int N), .val (.int row), .val (.int col), .unset] [(.int p3)]))
                refine own_st (fun _ k => XS.istore X43.here hx rfl (hb hby at_181) rfl (l' := #[.val (.int p1), .val (.int p2), .val (.int p3), .val (.int p4), .val (.int p5), .val (.int p6), .val (.ref b1), .val (.ref b9), .val (.ref b21), .val (.ref b34), .val (.int n1), .val (.int n2), .val (.int N), .val (.int row), .val (.int col), .val (.int p3)]) rfl k) ?_
                show own_Gl _ _ _ _ _ _ _ (T43.setTop (mkF m 183 #[.val (.int p1), .val (.int p2), .val (.int p3), .val (.int p4), .val (.int p5), .val (.int p6), .val (.ref b1), .val (.ref b9), .val (.ref b21), .val (.ref b34), .val (.int n1), .val (.int n2), .val (.int N), .val (.int row), .val (.int col), .val (.int p3)] []))
                refine own_st (fun _ k => XS.goto X43.here hx rfl (pc0 := 183) (pc' := 215) rfl (hb hby at_183) (by decide) (by decide) k) ?_
                show own_Gl _ _ _ _ _ _ _ (T43.setTop (mkF m 215 #[.val (.int p1), .val (.int p2), .val (.int p3), .val (.int p4), .val (.int p5), .val (.int p6), .val (.ref b1), .val (.ref b9), .val (.ref b21), .val (.ref b34), .val (.int n1), .val (.int n2), .val (.int N), .val (.int row), .val (.int col), .val (.int p3)] []))
                show own_Gl _ _ _ _ _ _ _ (T43.setTop (mkF m 215 #[.val (.int p1), .val (.int p2), .val (.int p3), .val (.int p4), .val (.int p5), .val (.int p6), .val (.ref b1), .val (.ref b9), .val (.ref b21), .val (.ref b34), .val (.int n1), .val (.int n2), .val (.int N), .val (.int row), .val (.int col), .val (.int p3)] []))
                exact J215_44 T43 _ N43 X43 e43 (p3) (by rw [hc162, hc173]; exact (hst.2.2.2.1 (hn1.symm.trans hc168)).1.symm)
              · refine own_st (fun _ k => XS.ifYes X43.here hx rfl (pc0 := 173) (pc' := 180) rfl (hb hby at_173) rfl ((if0 _ _).trans (feq hc173).2) (by decide) (by decide) k) ?_
                show own_Gl _ _ _ _ _ _ _ (T43.setTop (mkF m 180 #[.val (.int p1), .val (.int p2), .val (.int p3), .val (.int p4), .val (.int p5), .val (.int p6), .val (.ref b1), .val (.ref b9), .val (.ref b21), .val (.ref b34), .val (.int n1), .val (.int n2), .val (.int N), .val (.int row), .val (.int col), .unset] []))
                refine own_st (fun _ k => XS.iloadN X43.here hx rfl (hb hby at_180) rfl k) ?_
                show own_Gl _ _ _ _ _ _ _ (T43.setTop (mkF m 181 #[.val (.int p1), .val (.int p2), .val (.int p3), .val (.int p4), .val (.int p5), .val (.int p6), .val (.ref b1), .val (.ref b9), .val (.ref b21), .val (.ref b34), .val (.int n1), .val (.int n2), .val (.int N), .val (.int row), .val (.int col), .unset] [(.int p4)]))
                refine own_st (fun _ k => XS.istore X43.here hx rfl (hb hby at_181) rfl (l' := #[.val (.int p1), .val (.int p2), .val (.int p3), .val (.int p4), .val (.int p5), .val (.int p6), .val (.ref b1), .val (.ref b9), .val (.ref b21), .val (.ref b34), .val (.int n1), .val (.int n2), .val (.int N), .val (.int row), .val (.int col), .val (.int p4)]) rfl k) ?_
                show own_Gl _ _ _ _ _ _ _ (T43.setTop (mkF m 183 #[.val (.int p1), .val (.int p2), .val (.int p3), .val (.int p4), .val (.int p5), .val (.int p6), .val (.ref b1), .val (.ref b9), .val (.ref b21), .val (.ref b34), .val (.int n1), .val (.int n2), .val (.int N), .val (.int row), .val (.int col), .val (.int p4)] []))
                refine own_st (fun _ k => XS.goto X43.here hx rfl (pc0 := 183) (pc' := 215) rfl (hb hby at_183) (by decide) (by decide) k) ?_
                show own_Gl _ _ _ _ _ _ _ (T43.setTop (mkF m 215 #[.val (.int p1), .val (.int p2), .val (.int p3), .val (.int p4), .val (.int p5), .val (.int p6), .val (.ref b1), .val (.ref b9), .val (.ref b21), .val (.ref b34), .val (.int n1), .val (.int n2), .val (.int N), .val (.int row), .val (.int col), .val (.int p4)] []))
                show own_Gl _ _ _ _ _ _ _ (T43.setTop (mkF m 215 #[.val (.int p1), .val (.int p2), .val (.int p3), .val (.int p4), .val (.int p5), .val (.int p6), .val (.ref b1), .val (.ref b9), .val (.ref b21), .val (.ref b34), .val (.int n1), .val (.int n2), .val (.int N), .val (.int row), .val (.int col), .val (.int p4)] []))
                exact J215_44 T43 _ N43 X43 e43 (p4) (by rw [hc162, hcol.resolve_left hc173]; exact (hst.2.2.2.1 (hn1.symm.trans hc168)).2.symm)
            · refine own_st (fun _ k => XS.icmpYes X43.here hx rfl (pc0 := 168) (pc' := 186) rfl (hb hby at_168) rfl (feq hc168).2 (by decide) (by decide) k) ?_
              show own_Gl _ _ _ _ _ _ _ (T43.setTop (mkF m 186 #[.val (.int p1), .val (.int p2), .val (.int p3), .val (.int p4), .val (.int p5), .val (.int p6), .val (.ref b1), .val (.ref b9), .val (.ref b21), .val (.ref b34), .val (.int n1), .val (.int n2), .val (.int N), .val (.int row), .val (.int col), .unset] []))
              refine own_st (fun _ k => XS.iload X43.here hx rfl (hb hby at_186) rfl k) ?_
              show own_Gl _ _ _ _ _ _ _ (T43.setTop (mkF m 188 #[.val (.int p1), .val (.int p2), .val (.int p3), .val (.int p4), .val (.int p5), .val (.int p6), .val (.ref b1), .val (.ref b9), .val (.ref b21), .val (.ref b34), .val (.int n1), .val (.int n2), .val (.int N), .val (.int row), .val (.int col), .unset] [(.int col)]))
              by_cases hc188 : col = (0 : Int32)
              · refine own_st (fun _ k => XS.ifNo X43.here hx rfl (hb hby at_188) rfl ((if0 _ _).trans (teq hc188).2) k) ?_
                show own_Gl _ _ _ _ _ _ _ (T43.setTop (mkF m 191 #[.val (.int p1), .val (.int p2), .val (.int p3), .val (.int p4), .val (.int p5), .val (.int p6), .val (.ref b1), .val (.ref b9), .val (.ref b21), .val (.ref b34), .val (.int n1), .val (.int n2), .val (.int N), .val (.int row), .val (.int col), .unset] []))
                refine own_st (fun _ k => XS.iload X43.here hx rfl (hb hby at_191) rfl k) ?_
                show own_Gl _ _ _ _ _ _ _ (T43.setTop (mkF m 193 #[.val (.int p1), .val (.int p2), .val (.int p3), .val (.int p4), .val (.int p5), .val (.int p6), .val (.ref b1), .val (.ref b9), .val (.ref b21), .val (.ref b34), .val (.int n1), .val (.int n2), .val (.int N), .val (.int row), .val (.int col), .unset] [(.int p5)]))
                refine own_st (fun _ k => XS.goto X43.here hx rfl (pc0 := 193) (pc' := 197) rfl (hb hby at_193) (by decide) (by decide) k) ?_
                show own_Gl _ _ _ _ _ _ _ (T43.setTop (mkF m 197 #[.val (.int p1), .val (.int p2), .val (.int p3), .val (.int p4), .val (.int p5), .val (.int p6), .val (.ref b1), .val (.ref b9), .val (.ref b21), .val (.ref b34), .val (.int n1), .val (.int n2), .val (.int N), .val (.int row), .val (.int col), .unset] [(.int p5)]))
                refine own_st (fun _ k => XS.istore X43.here hx rfl (hb hby at_197) rfl (l' := #[.val (.int p1), .val (.int p2), .val (.int p3), .val (.int p4), .val (.int p5), .val (.int p6), .val (.ref b1), .val (.ref b9), .val (.ref b21), .val (.ref b34), .val (.int n1), .val (.int n2), .val (.int N), .val (.int row), .val (.int col), .val (.int p5)]) rfl k) ?_
                show own_Gl _ _ _ _ _ _ _ (T43.setTop (mkF m 199 #[.val (.int p1), .val (.int p2), .val (.int p3), .val (.int p4), .val (.int p5), .val (.int p6), .val (.ref b1), .val (.ref b9), .val (.ref b21), .val (.ref b34), .val (.int n1), .val (.int n2), .val (.int N), .val (.int row), .val (.int col), .val (.int p5)] []))
                refine own_st (fun _ k => XS.goto X43.here hx rfl (pc0 := 199) (pc' := 215) rfl (hb hby at_199) (by decide) (by decide) k) ?_
                show own_Gl _ _ _ _ _ _ _ (T43.setTop (mkF m 215 #[.val (.int p1), .val (.int p2), .val (.int p3), .val (.int p4), .val (.int p5), .val (.int p6), .val (.ref b1), .val (.ref b9), .val (.ref b21), .val (.ref b34), .val (.int n1), .val (.int n2), .val (.int N), .val (.int row), .val (.int col), .val (.int p5)] []))
                show own_Gl _ _ _ _ _ _ _ (T43.setTop (mkF m 215 #[.val (.int p1), .val (.int p2), .val (.int p3), .val (.int p4), .val (.int p5), .val (.int p6), .val (.ref b1), .val (.ref b9), .val (.ref b21), .val (.ref b34), .val (.int n1), .val (.int n2), .val (.int N), .val (.int row), .val (.int col), .val (.int p5)] []))
                exact J215_44 T43 _ N43 X43 e43 (p5) (by have z1 : ¬ own_n1 p1 p2 p3 p4 = (1 : Int32) := fun q => hc168 (hn1.trans q); rw [hc162, hc188]; exact (hst.2.2.2.2.2 (own_row1 hst hr hc162 z1) z1).1.symm)
              · refine own_st (fun _ k => XS.ifYes X43.here hx rfl (pc0 := 188) (pc' := 196) rfl (hb hby at_188) rfl ((if0 _ _).trans (feq hc188).2) (by decide) (by decide) k) ?_
                show own_Gl _ _ _ _ _ _ _ (T43.setTop (mkF m 196 #[.val (.int p1), .val (.int p2), .val (.int p3), .val (.int p4), .val (.int p5), .val (.int p6), .val (.ref b1), .val (.ref b9), .val (.ref b21), .val (.ref b34), .val (.int n1), .val (.int n2), .val (.int N), .val (.int row), .val (.int col), .unset] []))
                refine own_st (fun _ k => XS.iloadN X43.here hx rfl (hb hby at_196) rfl k) ?_
                show own_Gl _ _ _ _ _ _ _ (T43.setTop (mkF m 197 #[.val (.int p1), .val (.int p2), .val (.int p3), .val (.int p4), .val (.int p5), .val (.int p6), .val (.ref b1), .val (.ref b9), .val (.ref b21), .val (.ref b34), .val (.int n1), .val (.int n2), .val (.int N), .val (.int row), .val (.int col), .unset] [(.int p2)]))
                refine own_st (fun _ k => XS.istore X43.here hx rfl (hb hby at_197) rfl (l' := #[.val (.int p1), .val (.int p2), .val (.int p3), .val (.int p4), .val (.int p5), .val (.int p6), .val (.ref b1), .val (.ref b9), .val (.ref b21), .val (.ref b34), .val (.int n1), .val (.int n2), .val (.int N), .val (.int row), .val (.int col), .val (.int p2)]) rfl k) ?_
                show own_Gl _ _ _ _ _ _ _ (T43.setTop (mkF m 199 #[.val (.int p1), .val (.int p2), .val (.int p3), .val (.int p4), .val (.int p5), .val (.int p6), .val (.ref b1), .val (.ref b9), .val (.ref b21), .val (.ref b34), .val (.int n1), .val (.int n2), .val (.int N), .val (.int row), .val (.int col), .val (.int p2)] []))
                refine own_st (fun _ k => XS.goto X43.here hx rfl (pc0 := 199) (pc' := 215) rfl (hb hby at_199) (by decide) (by decide) k) ?_
                show own_Gl _ _ _ _ _ _ _ (T43.setTop (mkF m 215 #[.val (.int p1), .val (.int p2), .val (.int p3), .val (.int p4), .val (.int p5), .val (.int p6), .val (.ref b1), .val (.ref b9), .val (.ref b21), .val (.ref b34), .val (.int n1), .val (.int n2), .val (.int N), .val (.int row), .val (.int col), .val (.int p2)] []))
                show own_Gl _ _ _ _ _ _ _ (T43.setTop (mkF m 215 #[.val (.int p1), .val (.int p2), .val (.int p3), .val (.int p4), .val (.int p5), .val (.int p6), .val (.ref b1), .val (.ref b9), .val (.ref b21), .val (.ref b34), .val (.int n1), .val (.int n2), .val (.int N), .val (.int row), .val (.int col), .val (.int p2)] []))
                exact J215_44 T43 _ N43 X43 e43 (p2) (by have z1 : ¬ own_n1 p1 p2 p3 p4 = (1 : Int32) := fun q => hc168 (hn1.trans q); rw [hc162, hcol.resolve_left hc188]; exact (hst.2.2.2.2.2 (own_row1 hst hr hc162 z1) z1).2.symm)
          · refine own_st (fun _ k => XS.icmpYes X43.here hx rfl (pc0 := 162) (pc' := 202) rfl (hb hby at_162) rfl (feq hc162).2 (by decide) (by decide) k) ?_
            show own_Gl _ _ _ _ _ _ _ (T43.setTop (mkF m 202 #[.val (.int p1), .val (.int p2), .val (.int p3), .val (.int p4), .val (.int p5), .val (.int p6), .val (.ref b1), .val (.ref b9), .val (.ref b21), .val (.ref b34), .val (.int n1), .val (.int n2), .val (.int N), .val (.int row), .val (.int col), .unset] []))
            refine own_st (fun _ k => XS.iload X43.here hx rfl (hb hby at_202) rfl k) ?_
            show own_Gl _ _ _ _ _ _ _ (T43.setTop (mkF m 204 #[.val (.int p1), .val (.int p2), .val (.int p3), .val (.int p4), .val (.int p5), .val (.int p6), .val (.ref b1), .val (.ref b9), .val (.ref b21), .val (.ref b34), .val (.int n1), .val (.int n2), .val (.int N), .val (.int row), .val (.int col), .unset] [(.int col)]))
            by_cases hc204 : col = (0 : Int32)
            · refine own_st (fun _ k => XS.ifNo X43.here hx rfl (hb hby at_204) rfl ((if0 _ _).trans (teq hc204).2) k) ?_
              show own_Gl _ _ _ _ _ _ _ (T43.setTop (mkF m 207 #[.val (.int p1), .val (.int p2), .val (.int p3), .val (.int p4), .val (.int p5), .val (.int p6), .val (.ref b1), .val (.ref b9), .val (.ref b21), .val (.ref b34), .val (.int n1), .val (.int n2), .val (.int N), .val (.int row), .val (.int col), .unset] []))
              refine own_st (fun _ k => XS.iload X43.here hx rfl (hb hby at_207) rfl k) ?_
              show own_Gl _ _ _ _ _ _ _ (T43.setTop (mkF m 209 #[.val (.int p1), .val (.int p2), .val (.int p3), .val (.int p4), .val (.int p5), .val (.int p6), .val (.ref b1), .val (.ref b9), .val (.ref b21), .val (.ref b34), .val (.int n1), .val (.int n2), .val (.int N), .val (.int row), .val (.int col), .unset] [(.int p5)]))
              refine own_st (fun _ k => XS.goto X43.here hx rfl (pc0 := 209) (pc' := 213) rfl (hb hby at_209) (by decide) (by decide) k) ?_
              show own_Gl _ _ _ _ _ _ _ (T43.setTop (mkF m 213 #[.val (.int p1), .val (.int p2), .val (.int p3), .val (.int p4), .val (.int p5), .val (.int p6), .val (.ref b1), .val (.ref b9), .val (.ref b21), .val (.ref b34), .val (.int n1), .val (.int n2), .val (.int N), .val (.int row), .val (.int col), .unset] [(.int p5)]))
              refine own_st (fun _ k => XS.istore X43.here hx rfl (hb hby at_213) rfl (l' := #[.val (.int p1), .val (.int p2), .val (.int p3), .val (.int p4), .val (.int p5), .val (.int p6), .val (.ref b1), .val (.ref b9), .val (.ref b21), .val (.ref b34), .val (.int n1), .val (.int n2), .val (.int N), .val (.int row), .val (.int col), .val (.int p5)]) rfl k) ?_
              show own_Gl _ _ _ _ _ _ _ (T43.setTop (mkF m 215 #[.val (.int p1), .val (.int p2), .val (.int p3), .val (.int p4), .val (.int p5), .val (.int p6), .val (.ref b1), .val (.ref b9), .val (.ref b21), .val (.ref b34), .val (.int n1), .val (.int n2), .val (.int N), .val (.int row), .val (.int col), .val (.int p5)] []))
              show own_Gl _ _ _ _ _ _ _ (T43.setTop (mkF m 215 #[.val (.int p1), .val (.int p2), .val (.int p3), .val (.int p4), .val (.int p5), .val (.int p6), .val (.ref b1), .val (.ref b9), .val (.ref b21), .val (.ref b34), .val (.int n1), .val (.int n2), .val (.int N), .val (.int row), .val (.int col), .val (.int p5)] []))
              exact J215_44 T43 _ N43 X43 e43 (p5) (by obtain ⟨z1, z2, z3⟩ := own_row2 hst hr hc141 hc162; rw [z1, hc204]; exact (hst.2.2.2.2.1 z3 z2).1.symm)
            · refine own_st (fun _ k => XS.ifYes X43.here hx rfl (pc0 := 204) (pc' := 212) rfl (hb hby at_204) rfl ((if0 _ _).trans (feq hc204).2) (by decide) (by decide) k) ?_
              show own_Gl _ _ _ _ _ _ _ (T43.setTop (mkF m 212 #[.val (.int p1), .val (.int p2), .val (.int p3), .val (.int p4), .val (.int p5), .val (.int p6), .val (.ref b1), .val (.ref b9), .val (.ref b21), .val (.ref b34), .val (.int n1), .val (.int n2), .val (.int N), .val (.int row), .val (.int col), .unset] []))
              refine own_st (fun _ k => XS.iloadN X43.here hx rfl (hb hby at_212) rfl k) ?_
              show own_Gl _ _ _ _ _ _ _ (T43.setTop (mkF m 213 #[.val (.int p1), .val (.int p2), .val (.int p3), .val (.int p4), .val (.int p5), .val (.int p6), .val (.ref b1), .val (.ref b9), .val (.ref b21), .val (.ref b34), .val (.int n1), .val (.int n2), .val (.int N), .val (.int row), .val (.int col), .unset] [(.int p2)]))
              refine own_st (fun _ k => XS.istore X43.here hx rfl (hb hby at_213) rfl (l' := #[.val (.int p1), .val (.int p2), .val (.int p3), .val (.int p4), .val (.int p5), .val (.int p6), .val (.ref b1), .val (.ref b9), .val (.ref b21), .val (.ref b34), .val (.int n1), .val (.int n2), .val (.int N), .val (.int row), .val (.int col), .val (.int p2)]) rfl k) ?_
              show own_Gl _ _ _ _ _ _ _ (T43.setTop (mkF m 215 #[.val (.int p1), .val (.int p2), .val (.int p3), .val (.int p4), .val (.int p5), .val (.int p6), .val (.ref b1), .val (.ref b9), .val (.ref b21), .val (.ref b34), .val (.int n1), .val (.int n2), .val (.int N), .val (.int row), .val (.int col), .val (.int p2)] []))
              show own_Gl _ _ _ _ _ _ _ (T43.setTop (mkF m 215 #[.val (.int p1), .val (.int p2), .val (.int p3), .val (.int p4), .val (.int p5), .val (.int p6), .val (.ref b1), .val (.ref b9), .val (.ref b21), .val (.ref b34), .val (.int n1), .val (.int n2), .val (.int N), .val (.int row), .val (.int col), .val (.int p2)] []))
              exact J215_44 T43 _ N43 X43 e43 (p2) (by obtain ⟨z1, z2, z3⟩ := own_row2 hst hr hc141 hc162; rw [z1, hcol.resolve_left hc204]; exact (hst.2.2.2.2.1 z3 z2).2.symm)
      refine own_st (fun _ k => XS.iload X42.here hx rfl (hb hby at_91) rfl k) ?_
      show own_Gl _ _ _ _ _ _ _ (T42.setTop (mkF m 93 #[.val (.int p1), .val (.int p2), .val (.int p3), .val (.int p4), .val (.int p5), .val (.int p6), .val (.ref b1), .val (.ref b9), .val (.ref b21), .val (.ref b34), .val (.int n1), .unset, .unset, .unset, .unset, .unset] [(.int p5)]))
      refine own_st (fun _ k => XS.iloadN X42.here hx rfl (hb hby at_93) rfl k) ?_
      show own_Gl _ _ _ _ _ _ _ (T42.setTop (mkF m 94 #[.val (.int p1), .val (.int p2), .val (.int p3), .val (.int p4), .val (.int p5), .val (.int p6), .val (.ref b1), .val (.ref b9), .val (.ref b21), .val (.ref b34), .val (.int n1), .unset, .unset, .unset, .unset, .unset] [(.int p1), (.int p5)]))
      by_cases hc94 : p5 = p1
      · refine own_st (fun _ k => XS.icmpYes X42.here hx rfl (pc0 := 94) (pc' := 112) rfl (hb hby at_94) rfl (teq hc94).1 (by decide) (by decide) k) ?_
        show own_Gl _ _ _ _ _ _ _ (T42.setTop (mkF m 112 #[.val (.int p1), .val (.int p2), .val (.int p3), .val (.int p4), .val (.int p5), .val (.int p6), .val (.ref b1), .val (.ref b9), .val (.ref b21), .val (.ref b34), .val (.int n1), .unset, .unset, .unset, .unset, .unset] []))
        refine own_st (fun _ k => XS.iconst X42.here hx rfl (hb hby at_112) k) ?_
        show own_Gl _ _ _ _ _ _ _ (T42.setTop (mkF m 113 #[.val (.int p1), .val (.int p2), .val (.int p3), .val (.int p4), .val (.int p5), .val (.int p6), .val (.ref b1), .val (.ref b9), .val (.ref b21), .val (.ref b34), .val (.int n1), .unset, .unset, .unset, .unset, .unset] [(.int (0 : Int32))]))
        refine own_st (fun _ k => XS.istore X42.here hx rfl (hb hby at_113) rfl (l' := #[.val (.int p1), .val (.int p2), .val (.int p3), .val (.int p4), .val (.int p5), .val (.int p6), .val (.ref b1), .val (.ref b9), .val (.ref b21), .val (.ref b34), .val (.int n1), .val (.int (0 : Int32)), .unset, .unset, .unset, .unset]) rfl k) ?_
        show own_Gl _ _ _ _ _ _ _ (T42.setTop (mkF m 115 #[.val (.int p1), .val (.int p2), .val (.int p3), .val (.int p4), .val (.int p5), .val (.int p6), .val (.ref b1), .val (.ref b9), .val (.ref b21), .val (.ref b34), .val (.int n1), .val (.int (0 : Int32)), .unset, .unset, .unset, .unset] []))
        show own_Gl _ _ _ _ _ _ _ (T42.setTop (mkF m 115 #[.val (.int p1), .val (.int p2), .val (.int p3), .val (.int p4), .val (.int p5), .val (.int p6), .val (.ref b1), .val (.ref b9), .val (.ref b21), .val (.ref b34), .val (.int n1), .val (.int (0 : Int32)), .unset, .unset, .unset, .unset] []))
        exact J115_43 T42 _ N42 X42 e42 ((0 : Int32)) (by rw [own_n2, if_pos hc94])
      · refine own_st (fun _ k => XS.icmpNo X42.here hx rfl (hb hby at_94) rfl (feq hc94).1 k) ?_
        show own_Gl _ _ _ _ _ _ _ (T42.setTop (mkF m 97 #[.val (.int p1), .val (.int p2), .val (.int p3), .val (.int p4), .val (.int p5), .val (.int p6), .val (.ref b1), .val (.ref b9), .val (.ref b21), .val (.ref b34), .val (.int n1), .unset, .unset, .unset, .unset, .unset] []))
        refine own_st (fun _ k => XS.iload X42.here hx rfl (hb hby at_97) rfl k) ?_
        show own_Gl _ _ _ _ _ _ _ (T42.setTop (mkF m 99 #[.val (.int p1), .val (.int p2), .val (.int p3), .val (.int p4), .val (.int p5), .val (.int p6), .val (.ref b1), .val (.ref b9), .val (.ref b21), .val (.ref b34), .val (.int n1), .unset, .unset, .unset, .unset, .unset] [(.int p5)]))
        refine own_st (fun _ k => XS.iloadN X42.here hx rfl (hb hby at_99) rfl k) ?_
        show own_Gl _ _ _ _ _ _ _ (T42.setTop (mkF m 100 #[.val (.int p1), .val (.int p2), .val (.int p3), .val (.int p4), .val (.int p5), .val (.int p6), .val (.ref b1), .val (.ref b9), .val (.ref b21), .val (.ref b34), .val (.int n1), .unset, .unset, .unset, .unset, .unset] [(.int p3), (.int p5)]))
        by_cases hc100 : p5 = p3
        · refine own_st (fun _ k => XS.icmpNo X42.here hx rfl (hb hby at_100) rfl (teq hc100).2 k) ?_
          show own_Gl _ _ _ _ _ _ _ (T42.setTop (mkF m 103 #[.val (.int p1), .val (.int p2), .val (.int p3), .val (.int p4), .val (.int p5), .val (.int p6), .val (.ref b1), .val (.ref b9), .val (.ref b21), .val (.ref b34), .val (.int n1), .unset, .unset, .unset, .unset, .unset] []))
          refine own_st (fun _ k => XS.iloadN X42.here hx rfl (hb hby at_103) rfl k) ?_
          show own_Gl _ _ _ _ _ _ _ (T42.setTop (mkF m 104 #[.val (.int p1), .val (.int p2), .val (.int p3), .val (.int p4), .val (.int p5), .val (.int p6), .val (.ref b1), .val (.ref b9), .val (.ref b21), .val (.ref b34), .val (.int n1), .unset, .unset, .unset, .unset, .unset] [(.int p2)]))
          refine own_st (fun _ k => XS.iloadN X42.here hx rfl (hb hby at_104) rfl k) ?_
          show own_Gl _ _ _ _ _ _ _ (T42.setTop (mkF m 105 #[.val (.int p1), .val (.int p2), .val (.int p3), .val (.int p4), .val (.int p5), .val (.int p6), .val (.ref b1), .val (.ref b9), .val (.ref b21), .val (.ref b34), .val (.int n1), .unset, .unset, .unset, .unset, .unset] [(.int p4), (.int p2)]))
          by_cases hc105 : p2 = p4
          · refine own_st (fun _ k => XS.icmpYes X42.here hx rfl (pc0 := 105) (pc' := 112) rfl (hb hby at_105) rfl (teq hc105).1 (by decide) (by decide) k) ?_
            show own_Gl _ _ _ _ _ _ _ (T42.setTop (mkF m 112 #[.val (.int p1), .val (.int p2), .val (.int p3), .val (.int p4), .val (.int p5), .val (.int p6), .val (.ref b1), .val (.ref b9), .val (.ref b21), .val (.ref b34), .val (.int n1), .unset, .unset, .unset, .unset, .unset] []))
            refine own_st (fun _ k => XS.iconst X42.here hx rfl (hb hby at_112) k) ?_
            show own_Gl _ _ _ _ _ _ _ (T42.setTop (mkF m 113 #[.val (.int p1), .val (.int p2), .val (.int p3), .val (.int p4), .val (.int p5), .val (.int p6), .val (.ref b1), .val (.ref b9), .val (.ref b21), .val (.ref b34), .val (.int n1), .unset, .unset, .unset, .unset, .unset] [(.int (0 : Int32))]))
            refine own_st (fun _ k => XS.istore X42.here hx rfl (hb hby at_113) rfl (l' := #[.val (.int p1), .val (.int p2), .val (.int p3), .val (.int p4), .val (.int p5), .val (.int p6), .val (.ref b1), .val (.ref b9), .val (.ref b21), .val (.ref b34), .val (.int n1), .val (.int (0 : Int32)), .unset, .unset, .unset, .unset]) rfl k) ?_
            show own_Gl _ _ _ _ _ _ _ (T42.setTop (mkF m 115 #[.val (.int p1), .val (.int p2), .val (.int p3), .val (.int p4), .val (.int p5), .val (.int p6), .val (.ref b1), .val (.ref b9), .val (.ref b21), .val (.ref b34), .val (.int n1), .val (.int (0 : Int32)), .unset, .unset, .unset, .unset] []))
            show own_Gl _ _ _ _ _ _ _ (T42.setTop (mkF m 115 #[.val (.int p1), .val (.int p2), .val (.int p3), .val (.int p4), .val (.int p5), .val (.int p6), .val (.ref b1), .val (.ref b9), .val (.ref b21), .val (.ref b34), .val (.int n1), .val (.int (0 : Int32)), .unset, .unset, .unset, .unset] []))
            exact J115_43 T42 _ N42 X42 e42 ((0 : Int32)) (by rw [own_n2, if_neg hc94, if_pos hc100, if_pos hc105])
          · refine own_st (fun _ k => XS.icmpNo X42.here hx rfl (hb hby at_105) rfl (feq hc105).1 k) ?_
            show own_Gl _ _ _ _ _ _ _ (T42.setTop (mkF m 108 #[.val (.int p1), .val (.int p2), .val (.int p3), .val (.int p4), .val (.int p5), .val (.int p6), .val (.ref b1), .val (.ref b9), .val (.ref b21), .val (.ref b34), .val (.int n1), .unset, .unset, .unset, .unset, .unset] []))
            refine own_st (fun _ k => XS.iconst X42.here hx rfl (hb hby at_108) k) ?_
            show own_Gl _ _ _ _ _ _ _ (T42.setTop (mkF m 109 #[.val (.int p1), .val (.int p2), .val (.int p3), .val (.int p4), .val (.int p5), .val (.int p6), .val (.ref b1), .val (.ref b9), .val (.ref b21), .val (.ref b34), .val (.int n1), .unset, .unset, .unset, .unset, .unset] [(.int (1 : Int32))]))
            refine own_st (fun _ k => XS.goto X42.here hx rfl (pc0 := 109) (pc' := 113) rfl (hb hby at_109) (by decide) (by decide) k) ?_
            show own_Gl _ _ _ _ _ _ _ (T42.setTop (mkF m 113 #[.val (.int p1), .val (.int p2), .val (.int p3), .val (.int p4), .val (.int p5), .val (.int p6), .val (.ref b1), .val (.ref b9), .val (.ref b21), .val (.ref b34), .val (.int n1), .unset, .unset, .unset, .unset, .unset] [(.int (1 : Int32))]))
            refine own_st (fun _ k => XS.istore X42.here hx rfl (hb hby at_113) rfl (l' := #[.val (.int p1), .val (.int p2), .val (.int p3), .val (.int p4), .val (.int p5), .val (.int p6), .val (.ref b1), .val (.ref b9), .val (.ref b21), .val (.ref b34), .val (.int n1), .val (.int (1 : Int32)), .unset, .unset, .unset, .unset]) rfl k) ?_
            show own_Gl _ _ _ _ _ _ _ (T42.setTop (mkF m 115 #[.val (.int p1), .val (.int p2), .val (.int p3), .val (.int p4), .val (.int p5), .val (.int p6), .val (.ref b1), .val (.ref b9), .val (.ref b21), .val (.ref b34), .val (.int n1), .val (.int (1 : Int32)), .unset, .unset, .unset, .unset] []))
            show own_Gl _ _ _ _ _ _ _ (T42.setTop (mkF m 115 #[.val (.int p1), .val (.int p2), .val (.int p3), .val (.int p4), .val (.int p5), .val (.int p6), .val (.ref b1), .val (.ref b9), .val (.ref b21), .val (.ref b34), .val (.int n1), .val (.int (1 : Int32)), .unset, .unset, .unset, .unset] []))
            exact J115_43 T42 _ N42 X42 e42 ((1 : Int32)) (by rw [own_n2, if_neg hc94, if_pos hc100, if_neg hc105])
        · refine own_st (fun _ k => XS.icmpYes X42.here hx rfl (pc0 := 100) (pc' := 108) rfl (hb hby at_100) rfl (feq hc100).2 (by decide) (by decide) k) ?_
          show own_Gl _ _ _ _ _ _ _ (T42.setTop (mkF m 108 #[.val (.int p1), .val (.int p2), .val (.int p3), .val (.int p4), .val (.int p5), .val (.int p6), .val (.ref b1), .val (.ref b9), .val (.ref b21), .val (.ref b34), .val (.int n1), .unset, .unset, .unset, .unset, .unset] []))
          refine own_st (fun _ k => XS.iconst X42.here hx rfl (hb hby at_108) k) ?_
          show own_Gl _ _ _ _ _ _ _ (T42.setTop (mkF m 109 #[.val (.int p1), .val (.int p2), .val (.int p3), .val (.int p4), .val (.int p5), .val (.int p6), .val (.ref b1), .val (.ref b9), .val (.ref b21), .val (.ref b34), .val (.int n1), .unset, .unset, .unset, .unset, .unset] [(.int (1 : Int32))]))
          refine own_st (fun _ k => XS.goto X42.here hx rfl (pc0 := 109) (pc' := 113) rfl (hb hby at_109) (by decide) (by decide) k) ?_
          show own_Gl _ _ _ _ _ _ _ (T42.setTop (mkF m 113 #[.val (.int p1), .val (.int p2), .val (.int p3), .val (.int p4), .val (.int p5), .val (.int p6), .val (.ref b1), .val (.ref b9), .val (.ref b21), .val (.ref b34), .val (.int n1), .unset, .unset, .unset, .unset, .unset] [(.int (1 : Int32))]))
          refine own_st (fun _ k => XS.istore X42.here hx rfl (hb hby at_113) rfl (l' := #[.val (.int p1), .val (.int p2), .val (.int p3), .val (.int p4), .val (.int p5), .val (.int p6), .val (.ref b1), .val (.ref b9), .val (.ref b21), .val (.ref b34), .val (.int n1), .val (.int (1 : Int32)), .unset, .unset, .unset, .unset]) rfl k) ?_
          show own_Gl _ _ _ _ _ _ _ (T42.setTop (mkF m 115 #[.val (.int p1), .val (.int p2), .val (.int p3), .val (.int p4), .val (.int p5), .val (.int p6), .val (.ref b1), .val (.ref b9), .val (.ref b21), .val (.ref b34), .val (.int n1), .val (.int (1 : Int32)), .unset, .unset, .unset, .unset] []))
          show own_Gl _ _ _ _ _ _ _ (T42.setTop (mkF m 115 #[.val (.int p1), .val (.int p2), .val (.int p3), .val (.int p4), .val (.int p5), .val (.int p6), .val (.ref b1), .val (.ref b9), .val (.ref b21), .val (.ref b34), .val (.int n1), .val (.int (1 : Int32)), .unset, .unset, .unset, .unset] []))
          exact J115_43 T42 _ N42 X42 e42 ((1 : Int32)) (by rw [own_n2, if_neg hc94, if_neg hc100])
    refine own_st (fun _ k => XS.iloadN X41.here hx rfl (hb hby at_74) rfl k) ?_
    show own_Gl _ _ _ _ _ _ _ (T41.setTop (mkF m 75 #[.val (.int p1), .val (.int p2), .val (.int p3), .val (.int p4), .val (.int p5), .val (.int p6), .val (.ref b1), .val (.ref b9), .val (.ref b21), .val (.ref b34), .unset, .unset, .unset, .unset, .unset, .unset] [(.int p3)]))
    refine own_st (fun _ k => XS.iloadN X41.here hx rfl (hb hby at_75) rfl k) ?_
    show own_Gl _ _ _ _ _ _ _ (T41.setTop (mkF m 76 #[.val (.int p1), .val (.int p2), .val (.int p3), .val (.int p4), .val (.int p5), .val (.int p6), .val (.ref b1), .val (.ref b9), .val (.ref b21), .val (.ref b34), .unset, .unset, .unset, .unset, .unset, .unset] [(.int p1), (.int p3)]))
    by_cases hc76 : p3 = p1
    · refine own_st (fun _ k => XS.icmpNo X41.here hx rfl (hb hby at_76) rfl (teq hc76).2 k) ?_
      show own_Gl _ _ _ _ _ _ _ (T41.setTop (mkF m 79 #[.val (.int p1), .val (.int p2), .val (.int p3), .val (.int p4), .val (.int p5), .val (.int p6), .val (.ref b1), .val (.ref b9), .val (.ref b21), .val (.ref b34), .unset, .unset, .unset, .unset, .unset, .unset] []))
      refine own_st (fun _ k => XS.iloadN X41.here hx rfl (hb hby at_79) rfl k) ?_
      show own_Gl _ _ _ _ _ _ _ (T41.setTop (mkF m 80 #[.val (.int p1), .val (.int p2), .val (.int p3), .val (.int p4), .val (.int p5), .val (.int p6), .val (.ref b1), .val (.ref b9), .val (.ref b21), .val (.ref b34), .unset, .unset, .unset, .unset, .unset, .unset] [(.int p4)]))
      refine own_st (fun _ k => XS.iloadN X41.here hx rfl (hb hby at_80) rfl k) ?_
      show own_Gl _ _ _ _ _ _ _ (T41.setTop (mkF m 81 #[.val (.int p1), .val (.int p2), .val (.int p3), .val (.int p4), .val (.int p5), .val (.int p6), .val (.ref b1), .val (.ref b9), .val (.ref b21), .val (.ref b34), .unset, .unset, .unset, .unset, .unset, .unset] [(.int p2), (.int p4)]))
      by_cases hc81 : p4 = p2
      · refine own_st (fun _ k => XS.icmpNo X41.here hx rfl (hb hby at_81) rfl (teq hc81).2 k) ?_
        show own_Gl _ _ _ _ _ _ _ (T41.setTop (mkF m 84 #[.val (.int p1), .val (.int p2), .val (.int p3), .val (.int p4), .val (.int p5), .val (.int p6), .val (.ref b1), .val (.ref b9), .val (.ref b21), .val (.ref b34), .unset, .unset, .unset, .unset, .unset, .unset] []))
        refine own_st (fun _ k => XS.iconst X41.here hx rfl (hb hby at_84) k) ?_
        show own_Gl _ _ _ _ _ _ _ (T41.setTop (mkF m 85 #[.val (.int p1), .val (.int p2), .val (.int p3), .val (.int p4), .val (.int p5), .val (.int p6), .val (.ref b1), .val (.ref b9), .val (.ref b21), .val (.ref b34), .unset, .unset, .unset, .unset, .unset, .unset] [(.int (0 : Int32))]))
        refine own_st (fun _ k => XS.goto X41.here hx rfl (pc0 := 85) (pc' := 89) rfl (hb hby at_85) (by decide) (by decide) k) ?_
        show own_Gl _ _ _ _ _ _ _ (T41.setTop (mkF m 89 #[.val (.int p1), .val (.int p2), .val (.int p3), .val (.int p4), .val (.int p5), .val (.int p6), .val (.ref b1), .val (.ref b9), .val (.ref b21), .val (.ref b34), .unset, .unset, .unset, .unset, .unset, .unset] [(.int (0 : Int32))]))
        refine own_st (fun _ k => XS.istore X41.here hx rfl (hb hby at_89) rfl (l' := #[.val (.int p1), .val (.int p2), .val (.int p3), .val (.int p4), .val (.int p5), .val (.int p6), .val (.ref b1), .val (.ref b9), .val (.ref b21), .val (.ref b34), .val (.int (0 : Int32)), .unset, .unset, .unset, .unset, .unset]) rfl k) ?_
        show own_Gl _ _ _ _ _ _ _ (T41.setTop (mkF m 91 #[.val (.int p1), .val (.int p2), .val (.int p3), .val (.int p4), .val (.int p5), .val (.int p6), .val (.ref b1), .val (.ref b9), .val (.ref b21), .val (.ref b34), .val (.int (0 : Int32)), .unset, .unset, .unset, .unset, .unset] []))
        show own_Gl _ _ _ _ _ _ _ (T41.setTop (mkF m 91 #[.val (.int p1), .val (.int p2), .val (.int p3), .val (.int p4), .val (.int p5), .val (.int p6), .val (.ref b1), .val (.ref b9), .val (.ref b21), .val (.ref b34), .val (.int (0 : Int32)), .unset, .unset, .unset, .unset, .unset] []))
        exact J91_42 T41 _ N41 X41 e41 ((0 : Int32)) (by rw [own_n1, if_pos hc76, if_pos hc81])
      · refine own_st (fun _ k => XS.icmpYes X41.here hx rfl (pc0 := 81) (pc' := 88) rfl (hb hby at_81) rfl (feq hc81).2 (by decide) (by decide) k) ?_
        show own_Gl _ _ _ _ _ _ _ (T41.setTop (mkF m 88 #[.val (.int p1), .val (.int p2), .val (.int p3), .val (.int p4), .val (.int p5), .val (.int p6), .val (.ref b1), .val (.ref b9), .val (.ref b21), .val (.ref b34), .unset, .unset, .unset, .unset, .unset, .unset] []))
        refine own_st (fun _ k => XS.iconst X41.here hx rfl (hb hby at_88) k) ?_
        show own_Gl _ _ _ _ _ _ _ (T41.setTop (mkF m 89 #[.val (.int p1), .val (.int p2), .val (.int p3), .val (.int p4), .val (.int p5), .val (.int p6), .val (.ref b1), .val (.ref b9), .val (.ref b21), .val (.ref b34), .unset, .unset, .unset, .unset, .unset, .unset] [(.int (1 : Int32))]))
        refine own_st (fun _ k => XS.istore X41.here hx rfl (hb hby at_89) rfl (l' := #[.val (.int p1), .val (.int p2), .val (.int p3), .val (.int p4), .val (.int p5), .val (.int p6), .val (.ref b1), .val (.ref b9), .val (.ref b21), .val (.ref b34), .val (.int (1 : Int32)), .unset, .unset, .unset, .unset, .unset]) rfl k) ?_
        show own_Gl _ _ _ _ _ _ _ (T41.setTop (mkF m 91 #[.val (.int p1), .val (.int p2), .val (.int p3), .val (.int p4), .val (.int p5), .val (.int p6), .val (.ref b1), .val (.ref b9), .val (.ref b21), .val (.ref b34), .val (.int (1 : Int32)), .unset, .unset, .unset, .unset, .unset] []))
        show own_Gl _ _ _ _ _ _ _ (T41.setTop (mkF m 91 #[.val (.int p1), .val (.int p2), .val (.int p3), .val (.int p4), .val (.int p5), .val (.int p6), .val (.ref b1), .val (.ref b9), .val (.ref b21), .val (.ref b34), .val (.int (1 : Int32)), .unset, .unset, .unset, .unset, .unset] []))
        exact J91_42 T41 _ N41 X41 e41 ((1 : Int32)) (by rw [own_n1, if_pos hc76, if_neg hc81])
    · refine own_st (fun _ k => XS.icmpYes X41.here hx rfl (pc0 := 76) (pc' := 88) rfl (hb hby at_76) rfl (feq hc76).2 (by decide) (by decide) k) ?_
      show own_Gl _ _ _ _ _ _ _ (T41.setTop (mkF m 88 #[.val (.int p1), .val (.int p2), .val (.int p3), .val (.int p4), .val (.int p5), .val (.int p6), .val (.ref b1), .val (.ref b9), .val (.ref b21), .val (.ref b34), .unset, .unset, .unset, .unset, .unset, .unset] []))
      refine own_st (fun _ k => XS.iconst X41.here hx rfl (hb hby at_88) k) ?_
      show own_Gl _ _ _ _ _ _ _ (T41.setTop (mkF m 89 #[.val (.int p1), .val (.int p2), .val (.int p3), .val (.int p4), .val (.int p5), .val (.int p6), .val (.ref b1), .val (.ref b9), .val (.ref b21), .val (.ref b34), .unset, .unset, .unset, .unset, .unset, .unset] [(.int (1 : Int32))]))
      refine own_st (fun _ k => XS.istore X41.here hx rfl (hb hby at_89) rfl (l' := #[.val (.int p1), .val (.int p2), .val (.int p3), .val (.int p4), .val (.int p5), .val (.int p6), .val (.ref b1), .val (.ref b9), .val (.ref b21), .val (.ref b34), .val (.int (1 : Int32)), .unset, .unset, .unset, .unset, .unset]) rfl k) ?_
      show own_Gl _ _ _ _ _ _ _ (T41.setTop (mkF m 91 #[.val (.int p1), .val (.int p2), .val (.int p3), .val (.int p4), .val (.int p5), .val (.int p6), .val (.ref b1), .val (.ref b9), .val (.ref b21), .val (.ref b34), .val (.int (1 : Int32)), .unset, .unset, .unset, .unset, .unset] []))
      show own_Gl _ _ _ _ _ _ _ (T41.setTop (mkF m 91 #[.val (.int p1), .val (.int p2), .val (.int p3), .val (.int p4), .val (.int p5), .val (.int p6), .val (.ref b1), .val (.ref b9), .val (.ref b21), .val (.ref b34), .val (.int (1 : Int32)), .unset, .unset, .unset, .unset, .unset] []))
      exact J91_42 T41 _ N41 X41 e41 ((1 : Int32)) (by rw [own_n1, if_neg hc76])
  refine own_st (fun _ k => XS.aload X39.here hx rfl (hb hby at_50) rfl rfl k) ?_
  show own_Gl _ _ _ _ _ _ _ (T39.setTop (mkF m 52 #[.val (.int p1), .val (.int p2), .val (.int p3), .val (.int p4), .val (.int p5), .val (.int p6), .val (.ref b1), .val (.ref b9), .val (.ref b21), .val (.ref b34), .unset, .unset, .unset, .unset, .unset, .unset] [(.ref b1)]))
  refine own_st (fun _ k => XS.aload X39.here hx rfl (hb hby at_52) rfl rfl k) ?_
  show own_Gl _ _ _ _ _ _ _ (T39.setTop (mkF m 54 #[.val (.int p1), .val (.int p2), .val (.int p3), .val (.int p4), .val (.int p5), .val (.int p6), .val (.ref b1), .val (.ref b9), .val (.ref b21), .val (.ref b34), .unset, .unset, .unset, .unset, .unset, .unset] [(.ref b9), (.ref b1)]))
  have f50 := (((f28.ext E34).wr W37).wr W39)
  have f51 := (((((((((P4_9.ext E9).other W12 (Or.inl ne_b1_b9)).other W14 (Or.inl ne_b1_b9)).ext E21).other W24 (Or.inl ne_b1_b21)).other W26 (Or.inl ne_b1_b21)).ext E34).other W37 (Or.inl ne_b1_b34)).other W39 (Or.inl ne_b1_b34))
  have f52 := (((((((((P4_10.ext E9).other W12 (Or.inl ne_b1_b9)).other W14 (Or.inl ne_b1_b9)).ext E21).other W24 (Or.inl ne_b1_b21)).other W26 (Or.inl ne_b1_b21)).ext E34).other W37 (Or.inl ne_b1_b34)).other W39 (Or.inl ne_b1_b34))
  have f53 := (((((((((P4_11.ext E9).other W12 (Or.inl ne_b1_b9)).other W14 (Or.inl ne_b1_b9)).ext E21).other W24 (Or.inl ne_b1_b21)).other W26 (Or.inl ne_b1_b21)).ext E34).other W37 (Or.inl ne_b1_b34)).other W39 (Or.inl ne_b1_b34))
  have f54 := (((((((((P4_12.ext E9).other W12 (Or.inl ne_b1_b9)).other W14 (Or.inl ne_b1_b9)).ext E21).other W24 (Or.inl ne_b1_b21)).other W26 (Or.inl ne_b1_b21)).ext E34).other W37 (Or.inl ne_b1_b34)).other W39 (Or.inl ne_b1_b34))
  have f55 := (((((((((P4_13.ext E9).other W12 (Or.inl ne_b1_b9)).other W14 (Or.inl ne_b1_b9)).ext E21).other W24 (Or.inl ne_b1_b21)).other W26 (Or.inl ne_b1_b21)).ext E34).other W37 (Or.inl ne_b1_b34)).other W39 (Or.inl ne_b1_b34))
  have f56 := (((f29.ext E34).other W37 ne_rb_4_b34).other W39 ne_rb_4_b34)
  have f57 := (((f30.ext E34).other W37 ne_vb_4_b34).other W39 ne_vb_4_b34)
  have f58 := (((f32.ext E34).other W37 ne_b9_b34).other W39 ne_b9_b34)
  have f59 := (((f31.ext E34).wr W37).wr W39)
  have f60 := (((((((((P4_17.ext E9).other W12 (Or.inl ne_mp_4_b9)).other W14 (Or.inl ne_mp_4_b9)).ext E21).other W24 (Or.inl ne_mp_4_b21)).other W26 (Or.inl ne_mp_4_b21)).ext E34).other W37 (Or.inl ne_mp_4_b34)).other W39 (Or.inl ne_mp_4_b34))
  have f61 := (((((((((P4_18.ext E9).other W12 (Or.inl ne_mp_4_b9)).other W14 (Or.inl ne_mp_4_b9)).ext E21).other W24 (Or.inl ne_mp_4_b21)).other W26 (Or.inl ne_mp_4_b21)).ext E34).other W37 (Or.inl ne_mp_4_b34)).other W39 (Or.inl ne_mp_4_b34))
  have f62 := (((Vw26.ext E34).other W37 ne_b21_b34).other W39 ne_b21_b34)
  obtain ⟨cq49, kq49, q49a, q49b, q49c⟩ := isOf hZ e39 f50
  obtain ⟨_, _, ⟨T49, L49, k49, n49⟩, -, X49, ⟨Lc49, hQ49, l49, y49, z49⟩, st49⟩ := X39.virtualBack hx (y := (⟨"com/example/lehti/lehti/eval/Relation", "add", "([I)Z"⟩ : MethodName)) (z := (⟨"com/example/lehti/lehti/eval/Relation", "add", "([I)Z"⟩ : MethodName)) hown (mvT hZ (hw _ (List.mem_of_getElem? (i := 38) rfl))) (mvT hZ (hw _ (List.mem_of_getElem? (i := 39) rfl))) (notFace_of_selects (args := #[]) (mvT hZ (hw _ (List.mem_of_getElem? (i := 41) rfl)))) (mvT hZ (hw _ (List.mem_of_getElem? (i := 41) rfl))) (mvT hZ (hw _ (List.mem_of_getElem? (i := 40) rfl))) (by decide) (backOf (W := 0) (own_add_ins l Z a0 hw [] b1 b9 rb_4 mp_4 vb_4 kr_4 kv_4 k9 (fun _ => (0 : Int32)) (fun _ => (0 : Int32)) p1 p2 (0 : Int32) (0 : Int32) (own_h p1 p2) h39 n0 Zs40 f50 f51 f52 f53 f54 f55 f56 f57 f58 f59 f60 f61 g_b1 P4_0 P4_2 P4_4 ne_b1_b9 ne_b1_rb_4 ne_b1_mp_4 ne_b1_vb_4 (Ne.symm ne_rb_4_b9) (Ne.symm ne_mp_4_b9) (Ne.symm ne_vb_4_b9) P4_6 P4_7 P4_8 (by decide) (fun _ => Or.inl rfl) (own_find1 _ _ _ _ (fun _ => rfl))) hZ (hw _ (List.mem_of_getElem? (i := 42) rfl)) (hw _ (List.mem_of_getElem? (i := 2) rfl)) (by decide) (by decide)) q49a q49c (g := (mkF m 54 #[.val (.int p1), .val (.int p2), .val (.int p3), .val (.int p4), .val (.int p5), .val (.int p6), .val (.ref b1), .val (.ref b9), .val (.ref b21), .val (.ref b34), .unset, .unset, .unset, .unset, .unset, .unset] [(.ref b9), (.ref b1)])) rfl (by rw [hml]; rfl) (Steps.refl _) (argsL := [(.ref b9)]) (rest := []) (lenOf own_pd985831335 rfl) rfl (by show 2 * 0 + _ ≤ _; exact Nat.le_of_eq rfl) (hb hby at_54) (fun _ _ => ⟨rfl, e39, (by decide : 7 + 0 ≤ room_1.cells), (by decide : 67 + 0 ≤ room_1.slots)⟩)
  dsimp only [Pt.U, Pt.locs, Pt.cells, Pt.slots] at X49 l49 y49 z49 st49 hQ49
  subst l49 y49 z49
  obtain ⟨hh49, eh049⟩ : ∃ z, T49.heap = z := ⟨_, rfl⟩
  rw [eh049] at hQ49
  obtain ⟨rf2_49, vf2_49, rfl, Nq49, Kq49, P49_0, P49_1, P49_2, P49_3, P49_4, P49_5, P49_6, P49_7, P49_8, P49_9, P49_10⟩ := hQ49
  have N49 := Fr.app N39 Nq49
  refine own_tr st49 ?_
  have K63 : Keep h0 h39 [] := (((K33.ext E34).wr W37 (Or.inr gh_b34)).wr W39 (Or.inr gh_b34))
  have Zs64 : n0 ≤ hh49.size := Nat.le_trans Zs40 Kq49.1
  show own_Gl _ _ _ _ _ _ _ (T49.setTop (mkF m 57 #[.val (.int p1), .val (.int p2), .val (.int p3), .val (.int p4), .val (.int p5), .val (.int p6), .val (.ref b1), .val (.ref b9), .val (.ref b21), .val (.ref b34), .unset, .unset, .unset, .unset, .unset, .unset] [(.int (1 : Int32))]))
  refine own_st (fun _ k => XS.pop X49.here hx rfl (hb hby at_57) rfl rfl k) ?_
  show own_Gl _ _ _ _ _ _ _ (T49.setTop (mkF m 58 #[.val (.int p1), .val (.int p2), .val (.int p3), .val (.int p4), .val (.int p5), .val (.int p6), .val (.ref b1), .val (.ref b9), .val (.ref b21), .val (.ref b34), .unset, .unset, .unset, .unset, .unset, .unset] []))
  have R1 : ∀ q, rf2_49 q = if q = own_h p1 p2 then (1 : Int32) else (0 : Int32) := fun q => P49_9 q
  have V10 : vf2_49 0 = p1 := P49_10 0
  have V11 : vf2_49 1 = p2 := P49_10 1
  have R1b : ∀ q, rf2_49 q = (0 : Int32) ∨ rf2_49 q = (1 : Int32) ∨ rf2_49 q = (2 : Int32) := fun q => by rw [R1 q]; split <;> simp
  obtain ⟨F2a, F2b⟩ := own_find2 rf2_49 vf2_49 p1 p2 p3 p4 _ rfl R1 V10 V11
  rcases own_n1v p1 p2 p3 p4 with ⟨hz1, hA⟩ | ⟨hz1, hA⟩
  · show own_Gl _ _ _ _ _ _ _ (T49.setTop (mkF m 58 #[.val (.int p1), .val (.int p2), .val (.int p3), .val (.int p4), .val (.int p5), .val (.int p6), .val (.ref b1), .val (.ref b9), .val (.ref b21), .val (.ref b34), .unset, .unset, .unset, .unset, .unset, .unset] []))
    refine own_st (fun _ k => XS.aload X49.here hx rfl (hb hby at_58) rfl rfl k) ?_
    show own_Gl _ _ _ _ _ _ _ (T49.setTop (mkF m 60 #[.val (.int p1), .val (.int p2), .val (.int p3), .val (.int p4), .val (.int p5), .val (.int p6), .val (.ref b1), .val (.ref b9), .val (.ref b21), .val (.ref b34), .unset, .unset, .unset, .unset, .unset, .unset] [(.ref b1)]))
    refine own_st (fun _ k => XS.aload X49.here hx rfl (hb hby at_60) rfl rfl k) ?_
    show own_Gl _ _ _ _ _ _ _ (T49.setTop (mkF m 62 #[.val (.int p1), .val (.int p2), .val (.int p3), .val (.int p4), .val (.int p5), .val (.int p6), .val (.ref b1), .val (.ref b9), .val (.ref b21), .val (.ref b34), .unset, .unset, .unset, .unset, .unset, .unset] [(.ref b21), (.ref b1)]))
    have f66 := (f50.keep Kq49)
    have f67 := (f62.keep Kq49 (ninS (Ne.symm ne_b1_b21) (ninS (Ne.symm ne_rb_4_b21) (ninS (Ne.symm ne_vb_4_b21) (ninS (Ne.symm ne_mp_4_b21) nin0)))))
    have f68 := (f59.keep Kq49)
    have f69 := (f58.keep Kq49 (ninS (Ne.symm ne_b1_b9) (ninS (Ne.symm ne_rb_4_b9) (ninS (Ne.symm ne_vb_4_b9) (ninS (Ne.symm ne_mp_4_b9) nin0)))))
    have f70 := (Vw39.keep Kq49 (ninS (Ne.symm ne_b1_b34) (ninS (Ne.symm ne_rb_4_b34) (ninS (Ne.symm ne_vb_4_b34) (ninS (Ne.symm ne_mp_4_b34) nin0)))))
    obtain ⟨cq65, kq65, q65a, q65b, q65c⟩ := isOf hZ eh049 f66
    obtain ⟨_, _, ⟨T65, L65, k65, n65⟩, -, X65, ⟨Lc65, hQ65, l65, y65, z65⟩, st65⟩ := X49.virtualBack hx (y := (⟨"com/example/lehti/lehti/eval/Relation", "add", "([I)Z"⟩ : MethodName)) (z := (⟨"com/example/lehti/lehti/eval/Relation", "add", "([I)Z"⟩ : MethodName)) hown (mvT hZ (hw _ (List.mem_of_getElem? (i := 38) rfl))) (mvT hZ (hw _ (List.mem_of_getElem? (i := 39) rfl))) (notFace_of_selects (args := #[]) (mvT hZ (hw _ (List.mem_of_getElem? (i := 41) rfl)))) (mvT hZ (hw _ (List.mem_of_getElem? (i := 41) rfl))) (mvT hZ (hw _ (List.mem_of_getElem? (i := 40) rfl))) (by decide) (backOf (W := 0) (own_add_dup l Z a0 hw [] b1 b21 rb_4 mp_4 vb_4 kr_4 kv_4 k21 rf2_49 vf2_49 p3 p4 ((0 : Int32) + (1 : Int32)) ((0 : Int32) + (1 : Int32)) hh49 n0 Zs64 f66 P49_0 P49_1 P49_2 P49_3 P49_4 P49_5 P49_6 f67 f68 P49_7 P49_8 g_b1 P4_0 P4_2 P4_4 ne_b1_b21 ne_b1_rb_4 ne_b1_mp_4 ne_b1_vb_4 (Ne.symm ne_rb_4_b21) (Ne.symm ne_mp_4_b21) (Ne.symm ne_vb_4_b21) P4_6 P4_7 P4_8 (by decide) R1b (F2a hA)) hZ (hw _ (List.mem_of_getElem? (i := 42) rfl)) (hw _ (List.mem_of_getElem? (i := 2) rfl)) (by decide) (by decide)) q65a q65c (g := (mkF m 62 #[.val (.int p1), .val (.int p2), .val (.int p3), .val (.int p4), .val (.int p5), .val (.int p6), .val (.ref b1), .val (.ref b9), .val (.ref b21), .val (.ref b34), .unset, .unset, .unset, .unset, .unset, .unset] [(.ref b21), (.ref b1)])) rfl (by rw [hml]; rfl) (Steps.refl _) (argsL := [(.ref b21)]) (rest := []) (lenOf own_pd985831335 rfl) rfl (by show 2 * 0 + _ ≤ _; exact Nat.le_of_eq rfl) (hb hby at_62) (fun _ _ => ⟨rfl, eh049, (by decide : 7 + 0 ≤ room_1.cells), (by decide : 67 + 0 ≤ room_1.slots)⟩)
    dsimp only [Pt.U, Pt.locs, Pt.cells, Pt.slots] at X65 l65 y65 z65 st65 hQ65
    subst l65 y65 z65
    obtain ⟨hh65, eh065⟩ : ∃ z, T65.heap = z := ⟨_, rfl⟩
    rw [eh065] at hQ65
    obtain ⟨rfl, Nq65, eh65⟩ := hQ65
    have N65 := Fr.app N49 Nq65
    refine own_tr st65 ?_
    have e65 : T65.heap = hh49 := eh065.trans eh65
    show own_Gl _ _ _ _ _ _ _ (T65.setTop (mkF m 65 #[.val (.int p1), .val (.int p2), .val (.int p3), .val (.int p4), .val (.int p5), .val (.int p6), .val (.ref b1), .val (.ref b9), .val (.ref b21), .val (.ref b34), .unset, .unset, .unset, .unset, .unset, .unset] [(.int (0 : Int32))]))
    refine own_st (fun _ k => XS.pop X65.here hx rfl (hb hby at_65) rfl rfl k) ?_
    show own_Gl _ _ _ _ _ _ _ (T65.setTop (mkF m 66 #[.val (.int p1), .val (.int p2), .val (.int p3), .val (.int p4), .val (.int p5), .val (.int p6), .val (.ref b1), .val (.ref b9), .val (.ref b21), .val (.ref b34), .unset, .unset, .unset, .unset, .unset, .unset] []))
    obtain ⟨F3a, F3b⟩ := own_find2 rf2_49 vf2_49 p1 p2 p5 p2 _ rfl R1 V10 V11
    rcases own_n2v p1 p2 p3 p4 p5 with ⟨hz2, hB⟩ | ⟨hz2, hB1, hB2⟩
    · show own_Gl _ _ _ _ _ _ _ (T65.setTop (mkF m 66 #[.val (.int p1), .val (.int p2), .val (.int p3), .val (.int p4), .val (.int p5), .val (.int p6), .val (.ref b1), .val (.ref b9), .val (.ref b21), .val (.ref b34), .unset, .unset, .unset, .unset, .unset, .unset] []))
      refine own_st (fun _ k => XS.aload X65.here hx rfl (hb hby at_66) rfl rfl k) ?_
      show own_Gl _ _ _ _ _ _ _ (T65.setTop (mkF m 68 #[.val (.int p1), .val (.int p2), .val (.int p3), .val (.int p4), .val (.int p5), .val (.int p6), .val (.ref b1), .val (.ref b9), .val (.ref b21), .val (.ref b34), .unset, .unset, .unset, .unset, .unset, .unset] [(.ref b1)]))
      refine own_st (fun _ k => XS.aload X65.here hx rfl (hb hby at_68) rfl rfl k) ?_
      show own_Gl _ _ _ _ _ _ _ (T65.setTop (mkF m 70 #[.val (.int p1), .val (.int p2), .val (.int p3), .val (.int p4), .val (.int p5), .val (.int p6), .val (.ref b1), .val (.ref b9), .val (.ref b21), .val (.ref b34), .unset, .unset, .unset, .unset, .unset, .unset] [(.ref b34), (.ref b1)]))
      obtain ⟨cq71, kq71, q71a, q71b, q71c⟩ := isOf hZ e65 f66
      obtain ⟨_, _, ⟨T71, L71, k71, n71⟩, -, X71, ⟨Lc71, hQ71, l71, y71, z71⟩, st71⟩ := X65.virtualBack hx (y := (⟨"com/example/lehti/lehti/eval/Relation", "add", "([I)Z"⟩ : MethodName)) (z := (⟨"com/example/lehti/lehti/eval/Relation", "add", "([I)Z"⟩ : MethodName)) hown (mvT hZ (hw _ (List.mem_of_getElem? (i := 38) rfl))) (mvT hZ (hw _ (List.mem_of_getElem? (i := 39) rfl))) (notFace_of_selects (args := #[]) (mvT hZ (hw _ (List.mem_of_getElem? (i := 41) rfl)))) (mvT hZ (hw _ (List.mem_of_getElem? (i := 41) rfl))) (mvT hZ (hw _ (List.mem_of_getElem? (i := 40) rfl))) (by decide) (backOf (W := 0) (own_add_dup l Z a0 hw [] b1 b34 rb_4 mp_4 vb_4 kr_4 kv_4 k34 rf2_49 vf2_49 p5 p2 ((0 : Int32) + (1 : Int32)) ((0 : Int32) + (1 : Int32)) hh49 n0 Zs64 f66 P49_0 P49_1 P49_2 P49_3 P49_4 P49_5 P49_6 f70 f68 P49_7 P49_8 g_b1 P4_0 P4_2 P4_4 ne_b1_b34 ne_b1_rb_4 ne_b1_mp_4 ne_b1_vb_4 (Ne.symm ne_rb_4_b34) (Ne.symm ne_mp_4_b34) (Ne.symm ne_vb_4_b34) P4_6 P4_7 P4_8 (by decide) R1b (F3a (hB.elim id fun q => ⟨q.1.trans hA.1, q.2.trans hA.2⟩))) hZ (hw _ (List.mem_of_getElem? (i := 42) rfl)) (hw _ (List.mem_of_getElem? (i := 2) rfl)) (by decide) (by decide)) q71a q71c (g := (mkF m 70 #[.val (.int p1), .val (.int p2), .val (.int p3), .val (.int p4), .val (.int p5), .val (.int p6), .val (.ref b1), .val (.ref b9), .val (.ref b21), .val (.ref b34), .unset, .unset, .unset, .unset, .unset, .unset] [(.ref b34), (.ref b1)])) rfl (by rw [hml]; rfl) (Steps.refl _) (argsL := [(.ref b34)]) (rest := []) (lenOf own_pd985831335 rfl) rfl (by show 2 * 0 + _ ≤ _; exact Nat.le_of_eq rfl) (hb hby at_70) (fun _ _ => ⟨rfl, e65, (by decide : 7 + 0 ≤ room_1.cells), (by decide : 67 + 0 ≤ room_1.slots)⟩)
      dsimp only [Pt.U, Pt.locs, Pt.cells, Pt.slots] at X71 l71 y71 z71 st71 hQ71
      subst l71 y71 z71
      obtain ⟨hh71, eh071⟩ : ∃ z, T71.heap = z := ⟨_, rfl⟩
      rw [eh071] at hQ71
      obtain ⟨rfl, Nq71, eh71⟩ := hQ71
      have N71 := Fr.app N65 Nq71
      refine own_tr st71 ?_
      have e71 : T71.heap = hh49 := eh071.trans eh71
      show own_Gl _ _ _ _ _ _ _ (T71.setTop (mkF m 73 #[.val (.int p1), .val (.int p2), .val (.int p3), .val (.int p4), .val (.int p5), .val (.int p6), .val (.ref b1), .val (.ref b9), .val (.ref b21), .val (.ref b34), .unset, .unset, .unset, .unset, .unset, .unset] [(.int (0 : Int32))]))
      refine own_st (fun _ k => XS.pop X71.here hx rfl (hb hby at_73) rfl rfl k) ?_
      show own_Gl _ _ _ _ _ _ _ (T71.setTop (mkF m 74 #[.val (.int p1), .val (.int p2), .val (.int p3), .val (.int p4), .val (.int p5), .val (.int p6), .val (.ref b1), .val (.ref b9), .val (.ref b21), .val (.ref b34), .unset, .unset, .unset, .unset, .unset, .unset] []))
      have K72 : Keep h0 hh49 [] := (K63.trans Kq49 (allS (Or.inr gh_b1) (allS (Or.inr gh_rb_4) (allS (Or.inr gh_vb_4) (allS (Or.inr gh_mp_4) all0)))))
      show own_Gl _ _ _ _ _ _ _ (T71.setTop (mkF m 74 #[.val (.int p1), .val (.int p2), .val (.int p3), .val (.int p4), .val (.int p5), .val (.int p6), .val (.ref b1), .val (.ref b9), .val (.ref b21), .val (.ref b34), .unset, .unset, .unset, .unset, .unset, .unset] []))
      exact J74_41 T71 _ N71 X71 _ e71 (((0 : Int32) + (1 : Int32))) (vf2_49) Zs64 K72 P49_4 P49_2 P49_3 P49_6 f66 ⟨by rw [hz1, hz2]; rfl, V10, V11, fun q => absurd (hz1.symm.trans q) (by decide), fun q => absurd (hz2.symm.trans q) (by decide), fun q => absurd (hz2.symm.trans q) (by decide)⟩
    · obtain ⟨j2, G5, -⟩ := F3b hB1
      show own_Gl _ _ _ _ _ _ _ (T65.setTop (mkF m 66 #[.val (.int p1), .val (.int p2), .val (.int p3), .val (.int p4), .val (.int p5), .val (.int p6), .val (.ref b1), .val (.ref b9), .val (.ref b21), .val (.ref b34), .unset, .unset, .unset, .unset, .unset, .unset] []))
      refine own_st (fun _ k => XS.aload X65.here hx rfl (hb hby at_66) rfl rfl k) ?_
      show own_Gl _ _ _ _ _ _ _ (T65.setTop (mkF m 68 #[.val (.int p1), .val (.int p2), .val (.int p3), .val (.int p4), .val (.int p5), .val (.int p6), .val (.ref b1), .val (.ref b9), .val (.ref b21), .val (.ref b34), .unset, .unset, .unset, .unset, .unset, .unset] [(.ref b1)]))
      refine own_st (fun _ k => XS.aload X65.here hx rfl (hb hby at_68) rfl rfl k) ?_
      show own_Gl _ _ _ _ _ _ _ (T65.setTop (mkF m 70 #[.val (.int p1), .val (.int p2), .val (.int p3), .val (.int p4), .val (.int p5), .val (.int p6), .val (.ref b1), .val (.ref b9), .val (.ref b21), .val (.ref b34), .unset, .unset, .unset, .unset, .unset, .unset] [(.ref b34), (.ref b1)]))
      obtain ⟨cq73, kq73, q73a, q73b, q73c⟩ := isOf hZ e65 f66
      obtain ⟨_, _, ⟨T73, L73, k73, n73⟩, -, X73, ⟨Lc73, hQ73, l73, y73, z73⟩, st73⟩ := X65.virtualBack hx (y := (⟨"com/example/lehti/lehti/eval/Relation", "add", "([I)Z"⟩ : MethodName)) (z := (⟨"com/example/lehti/lehti/eval/Relation", "add", "([I)Z"⟩ : MethodName)) hown (mvT hZ (hw _ (List.mem_of_getElem? (i := 38) rfl))) (mvT hZ (hw _ (List.mem_of_getElem? (i := 39) rfl))) (notFace_of_selects (args := #[]) (mvT hZ (hw _ (List.mem_of_getElem? (i := 41) rfl)))) (mvT hZ (hw _ (List.mem_of_getElem? (i := 41) rfl))) (mvT hZ (hw _ (List.mem_of_getElem? (i := 40) rfl))) (by decide) (backOf (W := 0) (own_add_ins l Z a0 hw [] b1 b34 rb_4 mp_4 vb_4 kr_4 kv_4 k34 rf2_49 vf2_49 p5 p2 ((0 : Int32) + (1 : Int32)) ((0 : Int32) + (1 : Int32)) j2 hh49 n0 Zs64 f66 P49_0 P49_1 P49_2 P49_3 P49_4 P49_5 P49_6 f70 f68 P49_7 P49_8 g_b1 P4_0 P4_2 P4_4 ne_b1_b34 ne_b1_rb_4 ne_b1_mp_4 ne_b1_vb_4 (Ne.symm ne_rb_4_b34) (Ne.symm ne_mp_4_b34) (Ne.symm ne_vb_4_b34) P4_6 P4_7 P4_8 (by decide) R1b G5) hZ (hw _ (List.mem_of_getElem? (i := 42) rfl)) (hw _ (List.mem_of_getElem? (i := 2) rfl)) (by decide) (by decide)) q73a q73c (g := (mkF m 70 #[.val (.int p1), .val (.int p2), .val (.int p3), .val (.int p4), .val (.int p5), .val (.int p6), .val (.ref b1), .val (.ref b9), .val (.ref b21), .val (.ref b34), .unset, .unset, .unset, .unset, .unset, .unset] [(.ref b34), (.ref b1)])) rfl (by rw [hml]; rfl) (Steps.refl _) (argsL := [(.ref b34)]) (rest := []) (lenOf own_pd985831335 rfl) rfl (by show 2 * 0 + _ ≤ _; exact Nat.le_of_eq rfl) (hb hby at_70) (fun _ _ => ⟨rfl, e65, (by decide : 7 + 0 ≤ room_1.cells), (by decide : 67 + 0 ≤ room_1.slots)⟩)
      dsimp only [Pt.U, Pt.locs, Pt.cells, Pt.slots] at X73 l73 y73 z73 st73 hQ73
      subst l73 y73 z73
      obtain ⟨hh73, eh073⟩ : ∃ z, T73.heap = z := ⟨_, rfl⟩
      rw [eh073] at hQ73
      obtain ⟨rf2_73, vf2_73, rfl, Nq73, Kq73, P73_0, P73_1, P73_2, P73_3, P73_4, P73_5, P73_6, P73_7, P73_8, P73_9, P73_10⟩ := hQ73
      have N73 := Fr.app N65 Nq73
      refine own_tr st73 ?_
      have K74 : Keep h0 hh49 [] := (K63.trans Kq49 (allS (Or.inr gh_b1) (allS (Or.inr gh_rb_4) (allS (Or.inr gh_vb_4) (allS (Or.inr gh_mp_4) all0)))))
      have Zs75 : n0 ≤ hh73.size := Nat.le_trans Zs64 Kq73.1
      show own_Gl _ _ _ _ _ _ _ (T73.setTop (mkF m 73 #[.val (.int p1), .val (.int p2), .val (.int p3), .val (.int p4), .val (.int p5), .val (.int p6), .val (.ref b1), .val (.ref b9), .val (.ref b21), .val (.ref b34), .unset, .unset, .unset, .unset, .unset, .unset] [(.int (1 : Int32))]))
      refine own_st (fun _ k => XS.pop X73.here hx rfl (hb hby at_73) rfl rfl k) ?_
      show own_Gl _ _ _ _ _ _ _ (T73.setTop (mkF m 74 #[.val (.int p1), .val (.int p2), .val (.int p3), .val (.int p4), .val (.int p5), .val (.int p6), .val (.ref b1), .val (.ref b9), .val (.ref b21), .val (.ref b34), .unset, .unset, .unset, .unset, .unset, .unset] []))
      have K76 : Keep h0 hh73 [] := (K74.trans Kq73 (allS (Or.inr gh_b1) (allS (Or.inr gh_rb_4) (allS (Or.inr gh_vb_4) (allS (Or.inr gh_mp_4) all0)))))
      have f77 := (f66.keep Kq73)
      show own_Gl _ _ _ _ _ _ _ (T73.setTop (mkF m 74 #[.val (.int p1), .val (.int p2), .val (.int p3), .val (.int p4), .val (.int p5), .val (.int p6), .val (.ref b1), .val (.ref b9), .val (.ref b21), .val (.ref b34), .unset, .unset, .unset, .unset, .unset, .unset] []))
      exact J74_41 T73 _ N73 X73 _ eh073 ((((0 : Int32) + (1 : Int32)) + (1 : Int32))) (vf2_73) Zs75 K76 P73_4 P73_2 P73_3 P73_6 f77 ⟨by rw [hz1, hz2]; rfl, (P73_10 0).trans V10, (P73_10 1).trans V11, fun q => absurd (hz1.symm.trans q) (by decide), fun _ q => absurd (hz1.symm.trans q) (by decide), fun _ _ => ⟨P73_10 2, P73_10 3⟩⟩
  · obtain ⟨j1, G1, G2, G3, G4⟩ := F2b hA
    show own_Gl _ _ _ _ _ _ _ (T49.setTop (mkF m 58 #[.val (.int p1), .val (.int p2), .val (.int p3), .val (.int p4), .val (.int p5), .val (.int p6), .val (.ref b1), .val (.ref b9), .val (.ref b21), .val (.ref b34), .unset, .unset, .unset, .unset, .unset, .unset] []))
    refine own_st (fun _ k => XS.aload X49.here hx rfl (hb hby at_58) rfl rfl k) ?_
    show own_Gl _ _ _ _ _ _ _ (T49.setTop (mkF m 60 #[.val (.int p1), .val (.int p2), .val (.int p3), .val (.int p4), .val (.int p5), .val (.int p6), .val (.ref b1), .val (.ref b9), .val (.ref b21), .val (.ref b34), .unset, .unset, .unset, .unset, .unset, .unset] [(.ref b1)]))
    refine own_st (fun _ k => XS.aload X49.here hx rfl (hb hby at_60) rfl rfl k) ?_
    show own_Gl _ _ _ _ _ _ _ (T49.setTop (mkF m 62 #[.val (.int p1), .val (.int p2), .val (.int p3), .val (.int p4), .val (.int p5), .val (.int p6), .val (.ref b1), .val (.ref b9), .val (.ref b21), .val (.ref b34), .unset, .unset, .unset, .unset, .unset, .unset] [(.ref b21), (.ref b1)]))
    have f79 := (f50.keep Kq49)
    have f80 := (f62.keep Kq49 (ninS (Ne.symm ne_b1_b21) (ninS (Ne.symm ne_rb_4_b21) (ninS (Ne.symm ne_vb_4_b21) (ninS (Ne.symm ne_mp_4_b21) nin0)))))
    have f81 := (f59.keep Kq49)
    have f82 := (f58.keep Kq49 (ninS (Ne.symm ne_b1_b9) (ninS (Ne.symm ne_rb_4_b9) (ninS (Ne.symm ne_vb_4_b9) (ninS (Ne.symm ne_mp_4_b9) nin0)))))
    have f83 := (Vw39.keep Kq49 (ninS (Ne.symm ne_b1_b34) (ninS (Ne.symm ne_rb_4_b34) (ninS (Ne.symm ne_vb_4_b34) (ninS (Ne.symm ne_mp_4_b34) nin0)))))
    obtain ⟨cq78, kq78, q78a, q78b, q78c⟩ := isOf hZ eh049 f79
    obtain ⟨_, _, ⟨T78, L78, k78, n78⟩, -, X78, ⟨Lc78, hQ78, l78, y78, z78⟩, st78⟩ := X49.virtualBack hx (y := (⟨"com/example/lehti/lehti/eval/Relation", "add", "([I)Z"⟩ : MethodName)) (z := (⟨"com/example/lehti/lehti/eval/Relation", "add", "([I)Z"⟩ : MethodName)) hown (mvT hZ (hw _ (List.mem_of_getElem? (i := 38) rfl))) (mvT hZ (hw _ (List.mem_of_getElem? (i := 39) rfl))) (notFace_of_selects (args := #[]) (mvT hZ (hw _ (List.mem_of_getElem? (i := 41) rfl)))) (mvT hZ (hw _ (List.mem_of_getElem? (i := 41) rfl))) (mvT hZ (hw _ (List.mem_of_getElem? (i := 40) rfl))) (by decide) (backOf (W := 0) (own_add_ins l Z a0 hw [] b1 b21 rb_4 mp_4 vb_4 kr_4 kv_4 k21 rf2_49 vf2_49 p3 p4 ((0 : Int32) + (1 : Int32)) ((0 : Int32) + (1 : Int32)) j1 hh49 n0 Zs64 f79 P49_0 P49_1 P49_2 P49_3 P49_4 P49_5 P49_6 f80 f81 P49_7 P49_8 g_b1 P4_0 P4_2 P4_4 ne_b1_b21 ne_b1_rb_4 ne_b1_mp_4 ne_b1_vb_4 (Ne.symm ne_rb_4_b21) (Ne.symm ne_mp_4_b21) (Ne.symm ne_vb_4_b21) P4_6 P4_7 P4_8 (by decide) R1b G1) hZ (hw _ (List.mem_of_getElem? (i := 42) rfl)) (hw _ (List.mem_of_getElem? (i := 2) rfl)) (by decide) (by decide)) q78a q78c (g := (mkF m 62 #[.val (.int p1), .val (.int p2), .val (.int p3), .val (.int p4), .val (.int p5), .val (.int p6), .val (.ref b1), .val (.ref b9), .val (.ref b21), .val (.ref b34), .unset, .unset, .unset, .unset, .unset, .unset] [(.ref b21), (.ref b1)])) rfl (by rw [hml]; rfl) (Steps.refl _) (argsL := [(.ref b21)]) (rest := []) (lenOf own_pd985831335 rfl) rfl (by show 2 * 0 + _ ≤ _; exact Nat.le_of_eq rfl) (hb hby at_62) (fun _ _ => ⟨rfl, eh049, (by decide : 7 + 0 ≤ room_1.cells), (by decide : 67 + 0 ≤ room_1.slots)⟩)
    dsimp only [Pt.U, Pt.locs, Pt.cells, Pt.slots] at X78 l78 y78 z78 st78 hQ78
    subst l78 y78 z78
    obtain ⟨hh78, eh078⟩ : ∃ z, T78.heap = z := ⟨_, rfl⟩
    rw [eh078] at hQ78
    obtain ⟨rf2_78, vf2_78, rfl, Nq78, Kq78, P78_0, P78_1, P78_2, P78_3, P78_4, P78_5, P78_6, P78_7, P78_8, P78_9, P78_10⟩ := hQ78
    have N78 := Fr.app N49 Nq78
    refine own_tr st78 ?_
    have K84 : Keep h0 hh49 [] := (K63.trans Kq49 (allS (Or.inr gh_b1) (allS (Or.inr gh_rb_4) (allS (Or.inr gh_vb_4) (allS (Or.inr gh_mp_4) all0)))))
    have Zs85 : n0 ≤ hh78.size := Nat.le_trans Zs64 Kq78.1
    show own_Gl _ _ _ _ _ _ _ (T78.setTop (mkF m 65 #[.val (.int p1), .val (.int p2), .val (.int p3), .val (.int p4), .val (.int p5), .val (.int p6), .val (.ref b1), .val (.ref b9), .val (.ref b21), .val (.ref b34), .unset, .unset, .unset, .unset, .unset, .unset] [(.int (1 : Int32))]))
    refine own_st (fun _ k => XS.pop X78.here hx rfl (hb hby at_65) rfl rfl k) ?_
    show own_Gl _ _ _ _ _ _ _ (T78.setTop (mkF m 66 #[.val (.int p1), .val (.int p2), .val (.int p3), .val (.int p4), .val (.int p5), .val (.int p6), .val (.ref b1), .val (.ref b9), .val (.ref b21), .val (.ref b34), .unset, .unset, .unset, .unset, .unset, .unset] []))
    have R2 : ∀ q, rf2_78 q = if q = j1 then (2 : Int32) else if q = own_h p1 p2 then (1 : Int32) else (0 : Int32) := fun q => by rw [P78_9 q, R1 q]; rfl
    have R2b : ∀ q, rf2_78 q = (0 : Int32) ∨ rf2_78 q = (1 : Int32) ∨ rf2_78 q = (2 : Int32) := fun q => by rw [R2 q]; exact own_tri _ _
    have V20 : vf2_78 0 = p1 := (P78_10 0).trans V10
    have V21 : vf2_78 1 = p2 := (P78_10 1).trans V11
    have V22 : vf2_78 2 = p3 := P78_10 2
    have V23 : vf2_78 3 = p4 := P78_10 3
    obtain ⟨F3a, F3b⟩ := own_find3 rf2_78 vf2_78 p1 p2 p3 p4 p5 p2 _ j1 rfl G2 G3 G4 R2 V20 V21 V22 V23
    rcases own_n2v p1 p2 p3 p4 p5 with ⟨hz2, hB⟩ | ⟨hz2, hB1, hB2⟩
    · show own_Gl _ _ _ _ _ _ _ (T78.setTop (mkF m 66 #[.val (.int p1), .val (.int p2), .val (.int p3), .val (.int p4), .val (.int p5), .val (.int p6), .val (.ref b1), .val (.ref b9), .val (.ref b21), .val (.ref b34), .unset, .unset, .unset, .unset, .unset, .unset] []))
      refine own_st (fun _ k => XS.aload X78.here hx rfl (hb hby at_66) rfl rfl k) ?_
      show own_Gl _ _ _ _ _ _ _ (T78.setTop (mkF m 68 #[.val (.int p1), .val (.int p2), .val (.int p3), .val (.int p4), .val (.int p5), .val (.int p6), .val (.ref b1), .val (.ref b9), .val (.ref b21), .val (.ref b34), .unset, .unset, .unset, .unset, .unset, .unset] [(.ref b1)]))
      refine own_st (fun _ k => XS.aload X78.here hx rfl (hb hby at_68) rfl rfl k) ?_
      show own_Gl _ _ _ _ _ _ _ (T78.setTop (mkF m 70 #[.val (.int p1), .val (.int p2), .val (.int p3), .val (.int p4), .val (.int p5), .val (.int p6), .val (.ref b1), .val (.ref b9), .val (.ref b21), .val (.ref b34), .unset, .unset, .unset, .unset, .unset, .unset] [(.ref b34), (.ref b1)]))
      have f87 := (f79.keep Kq78)
      have f88 := (f83.keep Kq78 (ninS (Ne.symm ne_b1_b34) (ninS (Ne.symm ne_rb_4_b34) (ninS (Ne.symm ne_vb_4_b34) (ninS (Ne.symm ne_mp_4_b34) nin0)))))
      have f89 := (f81.keep Kq78)
      have f90 := (f82.keep Kq78 (ninS (Ne.symm ne_b1_b9) (ninS (Ne.symm ne_rb_4_b9) (ninS (Ne.symm ne_vb_4_b9) (ninS (Ne.symm ne_mp_4_b9) nin0)))))
      have f91 := (f80.keep Kq78 (ninS (Ne.symm ne_b1_b21) (ninS (Ne.symm ne_rb_4_b21) (ninS (Ne.symm ne_vb_4_b21) (ninS (Ne.symm ne_mp_4_b21) nin0)))))
      obtain ⟨cq86, kq86, q86a, q86b, q86c⟩ := isOf hZ eh078 f87
      obtain ⟨_, _, ⟨T86, L86, k86, n86⟩, -, X86, ⟨Lc86, hQ86, l86, y86, z86⟩, st86⟩ := X78.virtualBack hx (y := (⟨"com/example/lehti/lehti/eval/Relation", "add", "([I)Z"⟩ : MethodName)) (z := (⟨"com/example/lehti/lehti/eval/Relation", "add", "([I)Z"⟩ : MethodName)) hown (mvT hZ (hw _ (List.mem_of_getElem? (i := 38) rfl))) (mvT hZ (hw _ (List.mem_of_getElem? (i := 39) rfl))) (notFace_of_selects (args := #[]) (mvT hZ (hw _ (List.mem_of_getElem? (i := 41) rfl)))) (mvT hZ (hw _ (List.mem_of_getElem? (i := 41) rfl))) (mvT hZ (hw _ (List.mem_of_getElem? (i := 40) rfl))) (by decide) (backOf (W := 0) (own_add_dup l Z a0 hw [] b1 b34 rb_4 mp_4 vb_4 kr_4 kv_4 k34 rf2_78 vf2_78 p5 p2 (((0 : Int32) + (1 : Int32)) + (1 : Int32)) (((0 : Int32) + (1 : Int32)) + (1 : Int32)) hh78 n0 Zs85 f87 P78_0 P78_1 P78_2 P78_3 P78_4 P78_5 P78_6 f88 f89 P78_7 P78_8 g_b1 P4_0 P4_2 P4_4 ne_b1_b34 ne_b1_rb_4 ne_b1_mp_4 ne_b1_vb_4 (Ne.symm ne_rb_4_b34) (Ne.symm ne_mp_4_b34) (Ne.symm ne_vb_4_b34) P4_6 P4_7 P4_8 (by decide) R2b (F3a hB)) hZ (hw _ (List.mem_of_getElem? (i := 42) rfl)) (hw _ (List.mem_of_getElem? (i := 2) rfl)) (by decide) (by decide)) q86a q86c (g := (mkF m 70 #[.val (.int p1), .val (.int p2), .val (.int p3), .val (.int p4), .val (.int p5), .val (.int p6), .val (.ref b1), .val (.ref b9), .val (.ref b21), .val (.ref b34), .unset, .unset, .unset, .unset, .unset, .unset] [(.ref b34), (.ref b1)])) rfl (by rw [hml]; rfl) (Steps.refl _) (argsL := [(.ref b34)]) (rest := []) (lenOf own_pd985831335 rfl) rfl (by show 2 * 0 + _ ≤ _; exact Nat.le_of_eq rfl) (hb hby at_70) (fun _ _ => ⟨rfl, eh078, (by decide : 7 + 0 ≤ room_1.cells), (by decide : 67 + 0 ≤ room_1.slots)⟩)
      dsimp only [Pt.U, Pt.locs, Pt.cells, Pt.slots] at X86 l86 y86 z86 st86 hQ86
      subst l86 y86 z86
      obtain ⟨hh86, eh086⟩ : ∃ z, T86.heap = z := ⟨_, rfl⟩
      rw [eh086] at hQ86
      obtain ⟨rfl, Nq86, eh86⟩ := hQ86
      have N86 := Fr.app N78 Nq86
      refine own_tr st86 ?_
      have e86 : T86.heap = hh78 := eh086.trans eh86
      show own_Gl _ _ _ _ _ _ _ (T86.setTop (mkF m 73 #[.val (.int p1), .val (.int p2), .val (.int p3), .val (.int p4), .val (.int p5), .val (.int p6), .val (.ref b1), .val (.ref b9), .val (.ref b21), .val (.ref b34), .unset, .unset, .unset, .unset, .unset, .unset] [(.int (0 : Int32))]))
      refine own_st (fun _ k => XS.pop X86.here hx rfl (hb hby at_73) rfl rfl k) ?_
      show own_Gl _ _ _ _ _ _ _ (T86.setTop (mkF m 74 #[.val (.int p1), .val (.int p2), .val (.int p3), .val (.int p4), .val (.int p5), .val (.int p6), .val (.ref b1), .val (.ref b9), .val (.ref b21), .val (.ref b34), .unset, .unset, .unset, .unset, .unset, .unset] []))
      have K92 : Keep h0 hh78 [] := (K84.trans Kq78 (allS (Or.inr gh_b1) (allS (Or.inr gh_rb_4) (allS (Or.inr gh_vb_4) (allS (Or.inr gh_mp_4) all0)))))
      show own_Gl _ _ _ _ _ _ _ (T86.setTop (mkF m 74 #[.val (.int p1), .val (.int p2), .val (.int p3), .val (.int p4), .val (.int p5), .val (.int p6), .val (.ref b1), .val (.ref b9), .val (.ref b21), .val (.ref b34), .unset, .unset, .unset, .unset, .unset, .unset] []))
      exact J74_41 T86 _ N86 X86 _ e86 ((((0 : Int32) + (1 : Int32)) + (1 : Int32))) (vf2_78) Zs85 K92 P78_4 P78_2 P78_3 P78_6 f87 ⟨by rw [hz1, hz2]; rfl, V20, V21, fun _ => ⟨V22, V23⟩, fun q => absurd (hz2.symm.trans q) (by decide), fun q => absurd (hz2.symm.trans q) (by decide)⟩
    · obtain ⟨j2, G5⟩ := F3b hB1 hB2
      show own_Gl _ _ _ _ _ _ _ (T78.setTop (mkF m 66 #[.val (.int p1), .val (.int p2), .val (.int p3), .val (.int p4), .val (.int p5), .val (.int p6), .val (.ref b1), .val (.ref b9), .val (.ref b21), .val (.ref b34), .unset, .unset, .unset, .unset, .unset, .unset] []))
      refine own_st (fun _ k => XS.aload X78.here hx rfl (hb hby at_66) rfl rfl k) ?_
      show own_Gl _ _ _ _ _ _ _ (T78.setTop (mkF m 68 #[.val (.int p1), .val (.int p2), .val (.int p3), .val (.int p4), .val (.int p5), .val (.int p6), .val (.ref b1), .val (.ref b9), .val (.ref b21), .val (.ref b34), .unset, .unset, .unset, .unset, .unset, .unset] [(.ref b1)]))
      refine own_st (fun _ k => XS.aload X78.here hx rfl (hb hby at_68) rfl rfl k) ?_
      show own_Gl _ _ _ _ _ _ _ (T78.setTop (mkF m 70 #[.val (.int p1), .val (.int p2), .val (.int p3), .val (.int p4), .val (.int p5), .val (.int p6), .val (.ref b1), .val (.ref b9), .val (.ref b21), .val (.ref b34), .unset, .unset, .unset, .unset, .unset, .unset] [(.ref b34), (.ref b1)]))
      have f94 := (f79.keep Kq78)
      have f95 := (f83.keep Kq78 (ninS (Ne.symm ne_b1_b34) (ninS (Ne.symm ne_rb_4_b34) (ninS (Ne.symm ne_vb_4_b34) (ninS (Ne.symm ne_mp_4_b34) nin0)))))
      have f96 := (f81.keep Kq78)
      have f97 := (f82.keep Kq78 (ninS (Ne.symm ne_b1_b9) (ninS (Ne.symm ne_rb_4_b9) (ninS (Ne.symm ne_vb_4_b9) (ninS (Ne.symm ne_mp_4_b9) nin0)))))
      have f98 := (f80.keep Kq78 (ninS (Ne.symm ne_b1_b21) (ninS (Ne.symm ne_rb_4_b21) (ninS (Ne.symm ne_vb_4_b21) (ninS (Ne.symm ne_mp_4_b21) nin0)))))
      obtain ⟨cq93, kq93, q93a, q93b, q93c⟩ := isOf hZ eh078 f94
      obtain ⟨_, _, ⟨T93, L93, k93, n93⟩, -, X93, ⟨Lc93, hQ93, l93, y93, z93⟩, st93⟩ := X78.virtualBack hx (y := (⟨"com/example/lehti/lehti/eval/Relation", "add", "([I)Z"⟩ : MethodName)) (z := (⟨"com/example/lehti/lehti/eval/Relation", "add", "([I)Z"⟩ : MethodName)) hown (mvT hZ (hw _ (List.mem_of_getElem? (i := 38) rfl))) (mvT hZ (hw _ (List.mem_of_getElem? (i := 39) rfl))) (notFace_of_selects (args := #[]) (mvT hZ (hw _ (List.mem_of_getElem? (i := 41) rfl)))) (mvT hZ (hw _ (List.mem_of_getElem? (i := 41) rfl))) (mvT hZ (hw _ (List.mem_of_getElem? (i := 40) rfl))) (by decide) (backOf (W := 0) (own_add_ins l Z a0 hw [] b1 b34 rb_4 mp_4 vb_4 kr_4 kv_4 k34 rf2_78 vf2_78 p5 p2 (((0 : Int32) + (1 : Int32)) + (1 : Int32)) (((0 : Int32) + (1 : Int32)) + (1 : Int32)) j2 hh78 n0 Zs85 f94 P78_0 P78_1 P78_2 P78_3 P78_4 P78_5 P78_6 f95 f96 P78_7 P78_8 g_b1 P4_0 P4_2 P4_4 ne_b1_b34 ne_b1_rb_4 ne_b1_mp_4 ne_b1_vb_4 (Ne.symm ne_rb_4_b34) (Ne.symm ne_mp_4_b34) (Ne.symm ne_vb_4_b34) P4_6 P4_7 P4_8 (by decide) R2b G5) hZ (hw _ (List.mem_of_getElem? (i := 42) rfl)) (hw _ (List.mem_of_getElem? (i := 2) rfl)) (by decide) (by decide)) q93a q93c (g := (mkF m 70 #[.val (.int p1), .val (.int p2), .val (.int p3), .val (.int p4), .val (.int p5), .val (.int p6), .val (.ref b1), .val (.ref b9), .val (.ref b21), .val (.ref b34), .unset, .unset, .unset, .unset, .unset, .unset] [(.ref b34), (.ref b1)])) rfl (by rw [hml]; rfl) (Steps.refl _) (argsL := [(.ref b34)]) (rest := []) (lenOf own_pd985831335 rfl) rfl (by show 2 * 0 + _ ≤ _; exact Nat.le_of_eq rfl) (hb hby at_70) (fun _ _ => ⟨rfl, eh078, (by decide : 7 + 0 ≤ room_1.cells), (by decide : 67 + 0 ≤ room_1.slots)⟩)
      dsimp only [Pt.U, Pt.locs, Pt.cells, Pt.slots] at X93 l93 y93 z93 st93 hQ93
      subst l93 y93 z93
      obtain ⟨hh93, eh093⟩ : ∃ z, T93.heap = z := ⟨_, rfl⟩
      rw [eh093] at hQ93
      obtain ⟨rf2_93, vf2_93, rfl, Nq93, Kq93, P93_0, P93_1, P93_2, P93_3, P93_4, P93_5, P93_6, P93_7, P93_8, P93_9, P93_10⟩ := hQ93
      have N93 := Fr.app N78 Nq93
      refine own_tr st93 ?_
      have K99 : Keep h0 hh78 [] := (K84.trans Kq78 (allS (Or.inr gh_b1) (allS (Or.inr gh_rb_4) (allS (Or.inr gh_vb_4) (allS (Or.inr gh_mp_4) all0)))))
      have Zs100 : n0 ≤ hh93.size := Nat.le_trans Zs85 Kq93.1
      show own_Gl _ _ _ _ _ _ _ (T93.setTop (mkF m 73 #[.val (.int p1), .val (.int p2), .val (.int p3), .val (.int p4), .val (.int p5), .val (.int p6), .val (.ref b1), .val (.ref b9), .val (.ref b21), .val (.ref b34), .unset, .unset, .unset, .unset, .unset, .unset] [(.int (1 : Int32))]))
      refine own_st (fun _ k => XS.pop X93.here hx rfl (hb hby at_73) rfl rfl k) ?_
      show own_Gl _ _ _ _ _ _ _ (T93.setTop (mkF m 74 #[.val (.int p1), .val (.int p2), .val (.int p3), .val (.int p4), .val (.int p5), .val (.int p6), .val (.ref b1), .val (.ref b9), .val (.ref b21), .val (.ref b34), .unset, .unset, .unset, .unset, .unset, .unset] []))
      have K101 : Keep h0 hh93 [] := (K99.trans Kq93 (allS (Or.inr gh_b1) (allS (Or.inr gh_rb_4) (allS (Or.inr gh_vb_4) (allS (Or.inr gh_mp_4) all0)))))
      have f102 := (f94.keep Kq93)
      show own_Gl _ _ _ _ _ _ _ (T93.setTop (mkF m 74 #[.val (.int p1), .val (.int p2), .val (.int p3), .val (.int p4), .val (.int p5), .val (.int p6), .val (.ref b1), .val (.ref b9), .val (.ref b21), .val (.ref b34), .unset, .unset, .unset, .unset, .unset, .unset] []))
      exact J74_41 T93 _ N93 X93 _ eh093 (((((0 : Int32) + (1 : Int32)) + (1 : Int32)) + (1 : Int32))) (vf2_93) Zs100 K101 P93_4 P93_2 P93_3 P93_6 f102 ⟨by rw [hz1, hz2]; rfl, (P93_10 0).trans V20, (P93_10 1).trans V21, fun _ => ⟨(P93_10 2).trans V22, (P93_10 3).trans V23⟩, fun _ _ => ⟨P93_10 4, P93_10 5⟩, fun _ q => absurd hz1 q⟩
set_option maxRecDepth 65536 in
set_option maxHeartbeats 40000000 in
theorem comes_1 {Post : Tables → Env → Array Value → State → Outcome → State → Prop} (hpost : ∀ tb e args s v u, (limb_1_1.after args s (.returned v) u = true ∧ limb_1_2.after args s (.returned v) u = true ∧ True) → FrameEnd s (.returned v) u (Jvm.fieldLocs frame_1_writes args s ++ Jvm.arrayLocs frame_1_arrays args s ++ Jvm.staticLocs frame_1_statics s) 24 256 → Post tb e args s (.returned v) u) :
    ArmFor flags0 classFile x code maxLocals ret World_1 tables_1 room_1 Calls_1 rest_1 Pre_1 Post := by
  intro l hfl _ _ p e ha hc hk s m args below hf hA hF happ hP
  obtain ⟨hcalls, hrest, hpre⟩ := hP
  obtain ⟨-, -, -, hnamed, -, -, -, hat⟩ := (Spec.applies_iff hf).mp happ
  obtain ⟨hg, hn⟩ := and_e (Cond.before_iff.mp (show (Jvm.Cond.and given_1 narrow_1).before args s = true from hpre))
  obtain ⟨gg1, gg2⟩ := and_e hg
  obtain ⟨gg3, gg4⟩ := and_e gg2
  obtain ⟨gg5, gg6⟩ := and_e gg4
  obtain ⟨gg7, gg8⟩ := and_e gg6
  obtain ⟨gg9, gg10⟩ := and_e gg8
  obtain ⟨gg11, gg12⟩ := and_e gg10
  obtain ⟨w0, w1, w2, w3, w4, w5, rfl⟩ : ∃ w0 w1 w2 w3 w4 w5 : Value, args = #[w0, w1, w2, w3, w4, w5] := by
    have hs : args.size = 6 := by simpa [Cond.value, given_1] using gg1
    obtain ⟨L⟩ := args
    match L, hs with
    | [w0, w1, w2, w3, w4, w5], _ => exact ⟨w0, w1, w2, w3, w4, w5, rfl⟩
  have hw := fun d (hd : d ∈ tables_1) => atoms_spec (ws := Jvm.Cond.code x code maxLocals ret :: tables_1) hat d (List.mem_cons_of_mem _ hd)
  have hfit : Fit s := fun {y c} hc i hi => by
    obtain ⟨ha, rfl⟩ := Array.getElem?_eq_some_iff.mp hc
    have q := List.all_eq_true.mp ((Array.all_eq_true_iff_forall_mem.mp hF) _ (Array.getElem_mem ha)) i (List.mem_range.mpr hi)
    simpa [Array.getElem?_eq_getElem hi] using q
  obtain ⟨i0, ei0⟩ := is_v gg3
  obtain rfl : w0 = (.int i0) := Option.some.inj ei0
  obtain ⟨i1, ei1⟩ := is_v gg5
  obtain rfl : w1 = (.int i1) := Option.some.inj ei1
  obtain ⟨i2, ei2⟩ := is_v gg7
  obtain rfl : w2 = (.int i2) := Option.some.inj ei2
  obtain ⟨i3, ei3⟩ := is_v gg9
  obtain rfl : w3 = (.int i3) := Option.some.inj ei3
  obtain ⟨i4, ei4⟩ := is_v gg11
  obtain rfl : w4 = (.int i4) := Option.some.inj ei4
  obtain ⟨i5, ei5⟩ := is_v gg12
  obtain rfl : w5 = (.int i5) := Option.some.inj ei5
  obtain ⟨n, o, h1, h2, h3, _, L, rfl, ⟨rfl, N⟩, hq⟩ := own_law l s _ hw tables_1 i0 i1 i2 i3 i4 i5  s.heap s.heap.size (Nat.le_refl _)  p e ha hc hk s m _ below hf ((Spec.applies_iff_loose hf).mp happ).1 ⟨rfl, State.Warmed39.refl s, rfl⟩ trivial
  refine ⟨n, _, h1, h2, h3, hpost _ _ _ _ _ _ ⟨Cond.after_iff.mpr rfl, Cond.after_iff.mpr (eq_i res_at (Term.int_eval (1)) rfl), trivial⟩ ⟨hq.1, hq.2.1, (hq.2.2.sift fun y hy => Or.inr (N y hy)).mono (by decide) (by decide)⟩⟩
theorem main_1_1 : Claimed_1_1 := comes_1 fun _ _ _ _ _ _ h hF => ⟨h.1, hF⟩
theorem main_1_2 : Claimed_1_2 := comes_1 fun _ _ _ _ _ _ h hF => ⟨h.2.1, hF⟩

end Jvm.Pilot.@@N@@
namespace Jvm.Pilot.@@N@@
open Jvm Jvm.ClassFile Sem Op Lib Jvm.Free Jvm.Stand Jvm.Pilot.@@N@@.Jvm.D
/-! MADE BY PROGRAM (witnessworld.py) out of the Statement's table words and the real class files: 14 classes; the members and pool entries that the words name. The judged class is class 1, her method 1. -/
namespace start1
open Jvm.ClassFile
def u (s : String) : CpInfo := .utf8 (stringToUtf16 s)
/-- a pool by its gaps: so many unusable entries, then the entry; so many at the end -/
def gap : Nat → List CpInfo → List CpInfo
  | 0, r => r
  | n + 1, r => .unusable :: gap n r
def poolList (es : List (Nat × CpInfo)) (last : Nat) : List CpInfo := es.foldr (fun e r => gap e.1 (e.2 :: r)) (gap last [])
def pool (es : List (Nat × CpInfo)) (last : Nat) : Array CpInfo := ⟨poolList es last⟩
def fileOf (pool : Array CpInfo) (this : Nat) (attrs : Array Attribute := #[]) (ms : Array MethodInfo := #[]) (fl : Nat := 33) (sup : Nat := 0) (ifs : Array Nat := #[]) (fds : Array FieldInfo := #[]) : ClassFile where
  minorVersion := 0
  majorVersion := 65
  constantPool := pool
  accessFlags := fl
  thisClass := this
  superClass := sup
  interfaces := ifs
  fields := fds
  methods := ms
  attributes := attrs
def plain (name : String) (sup : Option ClassId) : Class where
  name := name
  kind := .ordinary
  loader := none
  accessFlags := 33
  super := sup
  interfaces := #[]
  cf := none
  fields := #[]
  methods := #[]
  instanceTypes := #[]
  staticTypes := #[]
  resolved := #[]
  callSites := []
  init := .initialized
  statics := none
  mirror := none

def pool0 : Array CpInfo := pool [(5, u "<init>"), (0, u "()V"), (1, .class_ 10), (1, u "java/lang/Object")] 113

def k0c0 : Code := { maxStack := 0, maxLocals := 1, code := object_method_1_code, exceptionTable := #[], attributes := #[] }
def k0m0 : Method := { name := "<init>", desc := "()V", sig := { parameters := [], returnType := none }, accessFlags := 1, code := some k0c0 }
/-- java/lang/Object -/
def k0 : Class := { plain "java/lang/Object" none with
  accessFlags := 33
  interfaces := #[]
  cf := some (fileOf pool0 8 #[] #[{ accessFlags := 1, nameIndex := 5, descriptorIndex := 6, attributes := #[] }] 33 0 #[] #[])
  fields := #[]
  methods := #[k0m0]
  instanceTypes := #[]
  staticTypes := #[]
  resolved := Array.replicate 124 none
  statics := none }

def pool1 : Array CpInfo := pool [(2, .class_ 4), (1, u "java/lang/Object"), (0, u "<init>"), (0, u "()V"), (0, .class_ 8), (0, u "com/example/lehti/lehti/eval/Relation"), (0, .methodref 7 10), (0, .nameAndType 5 11), (0, u "(I)V"), (0, .methodref 7 13), (0, .nameAndType 14 15), (0, u "add"), (0, u "([I)Z"), (0, .methodref 7 17), (0, .nameAndType 18 19), (0, u "size"), (0, u "()I"), (0, .methodref 7 21), (0, .nameAndType 22 23), (0, u "get"), (0, u "(II)I"), (0, .class_ 25), (0, u "com/example/lehti/lehti/eval/RelationGetPinLaw"), (2, u "law"), (0, u "(IIIIII)Z")] 5

def k1m0 : Method := { name := "<init>", desc := "()V", sig := { parameters := [], returnType := none }, accessFlags := 2, code := none }
def k1c1 : Code := { maxStack := 4, maxLocals := 16, code := code, exceptionTable := #[], attributes := #[] }
def k1m1 : Method := { name := "law", desc := "(IIIIII)Z", sig := { parameters := [.int, .int, .int, .int, .int, .int], returnType := some .boolean }, accessFlags := 9, code := some k1c1 }
/-- com/example/lehti/lehti/eval/RelationGetPinLaw -/
def k1 : Class := { plain "com/example/lehti/lehti/eval/RelationGetPinLaw" (some 0) with
  accessFlags := 49
  interfaces := #[]
  cf := some (fileOf pool1 24 #[] #[{ accessFlags := 2, nameIndex := 5, descriptorIndex := 6, attributes := #[] }, { accessFlags := 9, nameIndex := 28, descriptorIndex := 29, attributes := #[] }] 49 2 #[] #[])
  fields := #[]
  methods := #[k1m0, k1m1]
  instanceTypes := #[]
  staticTypes := #[]
  resolved := Array.replicate 35 none
  statics := none }

def pool2 : Array CpInfo := pool [(1, .methodref 2 3), (0, .class_ 4), (0, .nameAndType 5 6), (0, u "java/lang/Object"), (0, u "<init>"), (0, u "()V"), (0, .fieldref 8 9), (0, .class_ 10), (0, .nameAndType 11 12), (0, u "com/example/lehti/lehti/eval/Relation"), (0, u "rowsByTuple"), (0, u "[I"), (0, .class_ 14), (0, u "java/util/HashMap"), (0, .methodref 13 3), (0, .fieldref 8 17), (0, .nameAndType 18 19), (0, u "indexes"), (0, u "Ljava/util/Map;"), (0, .fieldref 8 21), (0, .nameAndType 22 23), (0, u "arity"), (0, u "I"), (0, .methodref 25 26), (0, .class_ 27), (0, .nameAndType 28 29), (0, u "java/lang/Math"), (0, u "max"), (0, u "(II)I"), (0, .fieldref 8 31), (0, .nameAndType 32 12), (0, u "values"), (0, .fieldref 8 34), (0, .nameAndType 35 23), (0, u "size"), (13, .methodref 8 50), (0, .nameAndType 51 52), (0, u "hash"), (0, u "([III)I"), (0, .methodref 8 54), (0, .nameAndType 55 56), (0, u "rowEquals"), (0, u "(I[I)Z"), (6, .methodref 64 65), (0, .class_ 66), (0, .nameAndType 67 68), (0, u "java/lang/System"), (0, u "arraycopy"), (0, u "(Ljava/lang/Object;ILjava/lang/Object;II)V"), (0, .interfaceMethodref 70 71), (0, .class_ 72), (0, .nameAndType 73 6), (0, u "java/util/Map"), (0, u "clear"), (15, .class_ 90), (0, u "com/example/lehti/lehti/eval/Relation$Index"), (0, .integer 2654435769), (0, .integer 16777619), (0, .integer 2246822507), (5, u "(I)V"), (2, u "()I"), (0, u "get"), (1, u "add"), (0, u "([I)Z")] 40

def k2c0 : Code := { maxStack := 4, maxLocals := 2, code := prog_7_method_1_code, exceptionTable := #[], attributes := #[] }
def k2m0 : Method := { name := "<init>", desc := "(I)V", sig := { parameters := [.int], returnType := none }, accessFlags := 1, code := some k2c0 }
def k2c1 : Code := { maxStack := 1, maxLocals := 1, code := prog_7_method_3_code, exceptionTable := #[], attributes := #[] }
def k2m1 : Method := { name := "size", desc := "()I", sig := { parameters := [], returnType := some .int }, accessFlags := 1, code := some k2c1 }
def k2c2 : Code := { maxStack := 4, maxLocals := 3, code := prog_7_method_4_code, exceptionTable := #[], attributes := #[] }
def k2m2 : Method := { name := "get", desc := "(II)I", sig := { parameters := [.int, .int], returnType := some .int }, accessFlags := 1, code := some k2c2 }
def k2c3 : Code := { maxStack := 5, maxLocals := 4, code := prog_7_method_5_code, exceptionTable := #[], attributes := #[] }
def k2m3 : Method := { name := "add", desc := "([I)Z", sig := { parameters := [(.array .int)], returnType := some .boolean }, accessFlags := 129, code := some k2c3 }
def k2c4 : Code := { maxStack := 3, maxLocals := 5, code := prog_7_method_7_code, exceptionTable := #[], attributes := #[] }
def k2m4 : Method := { name := "rowEquals", desc := "(I[I)Z", sig := { parameters := [.int, (.array .int)], returnType := some .boolean }, accessFlags := 2, code := some k2c4 }
def k2c5 : Code := { maxStack := 3, maxLocals := 5, code := prog_7_method_9_code, exceptionTable := #[], attributes := #[] }
def k2m5 : Method := { name := "hash", desc := "([III)I", sig := { parameters := [(.array .int), .int, .int], returnType := some .int }, accessFlags := 10, code := some k2c5 }
/-- com/example/lehti/lehti/eval/Relation -/
def k2 : Class := { plain "com/example/lehti/lehti/eval/Relation" (some 0) with
  accessFlags := 33
  interfaces := #[]
  cf := some (fileOf pool2 8 #[.nestMembers #[89]] #[{ accessFlags := 1, nameIndex := 5, descriptorIndex := 99, attributes := #[] }, { accessFlags := 1, nameIndex := 35, descriptorIndex := 102, attributes := #[] }, { accessFlags := 1, nameIndex := 103, descriptorIndex := 29, attributes := #[] }, { accessFlags := 129, nameIndex := 105, descriptorIndex := 106, attributes := #[] }, { accessFlags := 2, nameIndex := 55, descriptorIndex := 56, attributes := #[] }, { accessFlags := 10, nameIndex := 51, descriptorIndex := 52, attributes := #[] }] 33 2 #[] #[{ accessFlags := 18, nameIndex := 22, descriptorIndex := 23, attributes := #[] }, { accessFlags := 2, nameIndex := 32, descriptorIndex := 12, attributes := #[] }, { accessFlags := 2, nameIndex := 35, descriptorIndex := 23, attributes := #[] }, { accessFlags := 2, nameIndex := 11, descriptorIndex := 12, attributes := #[] }, { accessFlags := 18, nameIndex := 18, descriptorIndex := 19, attributes := #[] }])
  fields := #[{ name := "arity", type := .int, accessFlags := 18, slot := 0, constantValue := 0 }, { name := "values", type := (.array .int), accessFlags := 2, slot := 1, constantValue := 0 }, { name := "size", type := .int, accessFlags := 2, slot := 2, constantValue := 0 }, { name := "rowsByTuple", type := (.array .int), accessFlags := 2, slot := 3, constantValue := 0 }, { name := "indexes", type := (.object "java/util/Map"), accessFlags := 18, slot := 4, constantValue := 0 }]
  methods := #[k2m0, k2m1, k2m2, k2m3, k2m4, k2m5]
  instanceTypes := #[.int, (.array .int), .int, (.array .int), (.object "java/util/Map")]
  staticTypes := #[]
  resolved := Array.replicate 147 none
  statics := none }

def pool3 : Array CpInfo := pool [(2, .class_ 4), (1, u "java/util/Map"), (31, .class_ 37), (0, u "java/util/Map$Entry"), (55, .class_ 94), (0, u "java/lang/Object"), (34, u "clear"), (0, u "()V")] 132

def k3m0 : Method := { name := "clear", desc := "()V", sig := { parameters := [], returnType := none }, accessFlags := 1025, code := none }
/-- java/util/Map -/
def k3 : Class := { plain "java/util/Map" (some 0) with
  accessFlags := 1537
  interfaces := #[]
  cf := some (fileOf pool3 2 #[.nestMembers #[36]] #[{ accessFlags := 1025, nameIndex := 129, descriptorIndex := 130, attributes := #[] }] 1537 93 #[] #[])
  fields := #[]
  methods := #[k3m0]
  instanceTypes := #[]
  staticTypes := #[]
  resolved := Array.replicate 263 none
  statics := none }

def pool4 : Array CpInfo := pool [(1, .methodref 2 3), (0, .class_ 4), (0, .nameAndType 5 6), (0, u "java/lang/Object"), (0, u "<init>"), (0, u "()V"), (1, .class_ 10), (1, u "java/util/AbstractMap"), (42, .class_ 54), (0, u "java/util/Map"), (9, u "keySet"), (0, u "Ljava/util/Set;"), (0, .class_ 67), (0, u "java/util/AbstractMap$1"), (5, u "values"), (0, u "Ljava/util/Collection;"), (0, .class_ 76), (0, u "java/util/AbstractMap$2"), (104, .class_ 182), (0, u "java/util/AbstractMap$ViewCollection"), (0, .class_ 184), (0, u "java/util/AbstractMap$SimpleImmutableEntry"), (0, .class_ 186), (0, u "java/util/AbstractMap$SimpleEntry"), (0, .class_ 188), (0, u "java/util/AbstractMap$2$1"), (0, .class_ 190), (0, u "java/util/AbstractMap$1$1")] 5

def k4c0 : Code := { maxStack := 1, maxLocals := 1, code := jdk_71_method_1_code, exceptionTable := #[], attributes := #[] }
def k4m0 : Method := { name := "<init>", desc := "()V", sig := { parameters := [], returnType := none }, accessFlags := 4, code := some k4c0 }
/-- java/util/AbstractMap -/
def k4 : Class := { plain "java/util/AbstractMap" (some 0) with
  accessFlags := 1057
  interfaces := #[3]
  cf := some (fileOf pool4 8 #[.nestMembers #[181, 183, 185, 75, 187, 66, 189]] #[{ accessFlags := 4, nameIndex := 5, descriptorIndex := 6, attributes := #[] }] 1057 2 #[53] #[{ accessFlags := 128, nameIndex := 64, descriptorIndex := 65, attributes := #[] }, { accessFlags := 128, nameIndex := 73, descriptorIndex := 74, attributes := #[] }])
  fields := #[{ name := "keySet", type := (.object "java/util/Set"), accessFlags := 128, slot := 0, constantValue := 0 }, { name := "values", type := (.object "java/util/Collection"), accessFlags := 128, slot := 1, constantValue := 0 }]
  methods := #[k4m0]
  instanceTypes := #[(.object "java/util/Set"), (.object "java/util/Collection")]
  staticTypes := #[]
  resolved := Array.replicate 196 none
  statics := none }

def pool5 : Array CpInfo := pool [(1, .class_ 2), (0, u "java/lang/Cloneable"), (0, .class_ 4), (0, u "java/lang/Object")] 2

/-- java/lang/Cloneable -/
def k5 : Class := { plain "java/lang/Cloneable" (some 0) with
  accessFlags := 1537
  interfaces := #[]
  cf := some (fileOf pool5 1 #[] #[] 1537 3 #[] #[])
  fields := #[]
  methods := #[]
  instanceTypes := #[]
  staticTypes := #[]
  resolved := Array.replicate 7 none
  statics := none }

def pool6 : Array CpInfo := pool [(1, .class_ 2), (0, u "java/io/Serializable"), (0, .class_ 4), (0, u "java/lang/Object")] 2

/-- java/io/Serializable -/
def k6 : Class := { plain "java/io/Serializable" (some 0) with
  accessFlags := 1537
  interfaces := #[]
  cf := some (fileOf pool6 1 #[] #[] 1537 3 #[] #[])
  fields := #[]
  methods := #[]
  instanceTypes := #[]
  staticTypes := #[]
  resolved := Array.replicate 7 none
  statics := none }

def pool7 : Array CpInfo := pool [(40, .class_ 41), (0, u "java/util/HashMap"), (1, .methodref 44 45), (0, .class_ 46), (0, .nameAndType 47 48), (0, u "java/util/AbstractMap"), (0, u "<init>"), (0, u "()V"), (32, .fieldref 40 82), (0, .nameAndType 83 84), (0, u "loadFactor"), (0, u "F"), (5, u "threshold"), (0, u "I"), (0, .float 1061158912), (8, .class_ 103), (1, u "java/util/Map"), (0, u "size"), (0, .fieldref 40 106), (0, .nameAndType 107 108), (0, u "table"), (0, u "[Ljava/util/HashMap$Node;"), (14, u "entrySet"), (39, .class_ 165), (1, u "java/util/HashMap$Node"), (14, .class_ 181), (0, u "java/util/HashMap$TreeNode"), (20, .fieldref 40 203), (0, .nameAndType 204 91), (0, u "modCount"), (37, u "Ljava/util/Set;"), (0, .class_ 244), (0, u "java/util/HashMap$KeySet"), (18, .class_ 264), (0, u "java/util/HashMap$Values"), (3, .class_ 269), (0, u "java/util/HashMap$EntrySet"), (76, .class_ 348), (1, u "java/util/HashMap$UnsafeHolder"), (43, .class_ 393), (0, u "java/lang/Cloneable"), (0, .class_ 395), (0, u "java/io/Serializable"), (0, u "serialVersionUID"), (0, u "J"), (3, u "DEFAULT_INITIAL_CAPACITY"), (1, u "MAXIMUM_CAPACITY"), (0, u "DEFAULT_LOAD_FACTOR"), (0, u "TREEIFY_THRESHOLD"), (1, u "UNTREEIFY_THRESHOLD"), (1, u "MIN_TREEIFY_CAPACITY"), (92, u "clear"), (93, .class_ 597), (0, u "java/util/HashMap$EntrySpliterator"), (0, .class_ 599), (0, u "java/util/HashMap$ValueSpliterator"), (0, .class_ 601), (0, u "java/util/HashMap$KeySpliterator"), (0, .class_ 603), (0, u "java/util/HashMap$HashMapSpliterator"), (0, .class_ 605), (0, u "java/util/HashMap$EntryIterator"), (0, .class_ 607), (0, u "java/util/HashMap$ValueIterator"), (0, .class_ 609), (0, u "java/util/HashMap$KeyIterator"), (0, .class_ 611), (0, u "java/util/HashMap$HashIterator")] 17

def k7c0 : Code := { maxStack := 2, maxLocals := 1, code := jdk_69_method_7_code, exceptionTable := #[], attributes := #[] }
def k7m0 : Method := { name := "<init>", desc := "()V", sig := { parameters := [], returnType := none }, accessFlags := 1, code := some k7c0 }
def k7c1 : Code := { maxStack := 3, maxLocals := 3, code := jdk_69_method_22_code, exceptionTable := #[], attributes := #[] }
def k7m1 : Method := { name := "clear", desc := "()V", sig := { parameters := [], returnType := none }, accessFlags := 1, code := some k7c1 }
/-- java/util/HashMap -/
def k7 : Class := { plain "java/util/HashMap" (some 4) with
  accessFlags := 33
  interfaces := #[3, 5, 6]
  cf := some (fileOf pool7 40 #[.nestMembers #[180, 596, 598, 600, 602, 604, 606, 608, 610, 346, 268, 263, 243, 163]] #[{ accessFlags := 1, nameIndex := 47, descriptorIndex := 48, attributes := #[] }, { accessFlags := 1, nameIndex := 502, descriptorIndex := 48, attributes := #[] }] 33 44 #[101, 392, 394] #[{ accessFlags := 26, nameIndex := 396, descriptorIndex := 397, attributes := #[] }, { accessFlags := 24, nameIndex := 401, descriptorIndex := 91, attributes := #[] }, { accessFlags := 24, nameIndex := 403, descriptorIndex := 91, attributes := #[] }, { accessFlags := 24, nameIndex := 404, descriptorIndex := 84, attributes := #[] }, { accessFlags := 24, nameIndex := 405, descriptorIndex := 91, attributes := #[] }, { accessFlags := 24, nameIndex := 407, descriptorIndex := 91, attributes := #[] }, { accessFlags := 24, nameIndex := 409, descriptorIndex := 91, attributes := #[] }, { accessFlags := 128, nameIndex := 107, descriptorIndex := 108, attributes := #[] }, { accessFlags := 128, nameIndex := 123, descriptorIndex := 242, attributes := #[] }, { accessFlags := 128, nameIndex := 104, descriptorIndex := 91, attributes := #[] }, { accessFlags := 128, nameIndex := 204, descriptorIndex := 91, attributes := #[] }, { accessFlags := 0, nameIndex := 90, descriptorIndex := 91, attributes := #[] }, { accessFlags := 16, nameIndex := 83, descriptorIndex := 84, attributes := #[] }])
  fields := #[{ name := "serialVersionUID", type := .long, accessFlags := 26, slot := 0, constantValue := 0 }, { name := "DEFAULT_INITIAL_CAPACITY", type := .int, accessFlags := 24, slot := 1, constantValue := 0 }, { name := "MAXIMUM_CAPACITY", type := .int, accessFlags := 24, slot := 2, constantValue := 0 }, { name := "DEFAULT_LOAD_FACTOR", type := .float, accessFlags := 24, slot := 3, constantValue := 0 }, { name := "TREEIFY_THRESHOLD", type := .int, accessFlags := 24, slot := 4, constantValue := 0 }, { name := "UNTREEIFY_THRESHOLD", type := .int, accessFlags := 24, slot := 5, constantValue := 0 }, { name := "MIN_TREEIFY_CAPACITY", type := .int, accessFlags := 24, slot := 6, constantValue := 0 }, { name := "table", type := (.array (.object "java/util/HashMap$Node")), accessFlags := 128, slot := 2, constantValue := 0 }, { name := "entrySet", type := (.object "java/util/Set"), accessFlags := 128, slot := 3, constantValue := 0 }, { name := "size", type := .int, accessFlags := 128, slot := 4, constantValue := 0 }, { name := "modCount", type := .int, accessFlags := 128, slot := 5, constantValue := 0 }, { name := "threshold", type := .int, accessFlags := 0, slot := 6, constantValue := 0 }, { name := "loadFactor", type := .float, accessFlags := 16, slot := 7, constantValue := 0 }]
  methods := #[k7m0, k7m1]
  instanceTypes := #[(.object "java/util/Set"), (.object "java/util/Collection"), (.array (.object "java/util/HashMap$Node")), (.object "java/util/Set"), .int, .int, .int, .float]
  staticTypes := #[.long, .int, .int, .float, .int, .int, .int]
  resolved := Array.replicate 629 none
  statics := none }

def pool8 : Array CpInfo := pool [(1, .class_ 2), (0, u "java/lang/Math"), (1, .class_ 6), (1, u "java/lang/Object"), (0, u "<init>"), (0, u "()V"), (89, .class_ 100), (1, u "java/lang/Math$RandomNumberGeneratorHolder"), (71, u "negativeZeroFloatBits"), (0, u "J"), (2, u "negativeZeroDoubleBits"), (21, u "max"), (46, u "$assertionsDisabled"), (0, u "Z"), (88, u "(II)I"), (2, u "twoToTheDoubleScaleDown"), (0, u "D"), (4, u "twoToTheDoubleScaleUp"), (9, u "E"), (3, u "PI"), (2, u "TAU"), (2, u "DEGREES_TO_RADIANS"), (0, u "RADIANS_TO_DEGREES")] 94

def k8m0 : Method := { name := "<init>", desc := "()V", sig := { parameters := [], returnType := none }, accessFlags := 2, code := none }
def k8c1 : Code := { maxStack := 2, maxLocals := 2, code := jdk_29_method_65_code, exceptionTable := #[], attributes := #[] }
def k8m1 : Method := { name := "max", desc := "(II)I", sig := { parameters := [.int, .int], returnType := some .int }, accessFlags := 9, code := some k8c1 }
/-- java/lang/Math -/
def k8 : Class := { plain "java/lang/Math" (some 0) with
  accessFlags := 49
  interfaces := #[]
  cf := some (fileOf pool8 1 #[.nestMembers #[98]] #[{ accessFlags := 2, nameIndex := 7, descriptorIndex := 8, attributes := #[] }, { accessFlags := 9, nameIndex := 198, descriptorIndex := 335, attributes := #[] }] 49 4 #[] #[{ accessFlags := 25, nameIndex := 354, descriptorIndex := 339, attributes := #[] }, { accessFlags := 25, nameIndex := 358, descriptorIndex := 339, attributes := #[] }, { accessFlags := 25, nameIndex := 361, descriptorIndex := 339, attributes := #[] }, { accessFlags := 26, nameIndex := 364, descriptorIndex := 339, attributes := #[] }, { accessFlags := 26, nameIndex := 365, descriptorIndex := 339, attributes := #[] }, { accessFlags := 26, nameIndex := 172, descriptorIndex := 173, attributes := #[] }, { accessFlags := 26, nameIndex := 176, descriptorIndex := 173, attributes := #[] }, { accessFlags := 8, nameIndex := 344, descriptorIndex := 339, attributes := #[] }, { accessFlags := 8, nameIndex := 338, descriptorIndex := 339, attributes := #[] }, { accessFlags := 4120, nameIndex := 245, descriptorIndex := 246, attributes := #[] }])
  fields := #[{ name := "E", type := .double, accessFlags := 25, slot := 0, constantValue := 0 }, { name := "PI", type := .double, accessFlags := 25, slot := 1, constantValue := 0 }, { name := "TAU", type := .double, accessFlags := 25, slot := 2, constantValue := 0 }, { name := "DEGREES_TO_RADIANS", type := .double, accessFlags := 26, slot := 3, constantValue := 0 }, { name := "RADIANS_TO_DEGREES", type := .double, accessFlags := 26, slot := 4, constantValue := 0 }, { name := "negativeZeroFloatBits", type := .long, accessFlags := 26, slot := 5, constantValue := 0 }, { name := "negativeZeroDoubleBits", type := .long, accessFlags := 26, slot := 6, constantValue := 0 }, { name := "twoToTheDoubleScaleUp", type := .double, accessFlags := 8, slot := 7, constantValue := 0 }, { name := "twoToTheDoubleScaleDown", type := .double, accessFlags := 8, slot := 8, constantValue := 0 }, { name := "$assertionsDisabled", type := .boolean, accessFlags := 4120, slot := 9, constantValue := 0 }]
  methods := #[k8m0, k8m1]
  instanceTypes := #[]
  staticTypes := #[.double, .double, .double, .double, .double, .long, .long, .double, .double, .boolean]
  resolved := Array.replicate 460 none
  statics := none }

def pool9 : Array CpInfo := pool [(2, .class_ 4), (1, u "java/lang/Object"), (0, u "<init>"), (0, u "()V"), (1, .class_ 10), (1, u "java/lang/System"), (0, u "allowSecurityManager"), (0, u "I"), (16, u "cons"), (0, u "Ljava/io/Console;"), (77, .class_ 110), (1, u "java/lang/System$CallersHolder"), (43, u "initialErrStream"), (0, u "Ljava/io/PrintStream;"), (19, u "security"), (0, u "Ljava/lang/SecurityManager;"), (31, .class_ 209), (0, u "java/lang/System$1"), (7, u "props"), (0, u "Ljava/util/Properties;"), (2, u "lineSeparator"), (0, u "Ljava/lang/String;"), (96, .class_ 321), (1, u "java/lang/System$LoggerFinder"), (5, .class_ 328), (0, u "java/lang/System$Logger"), (67, u "err"), (2, u "out"), (91, u "notSupportedJnuEncoding"), (15, u "in"), (17, u "initialIn"), (0, u "Ljava/io/InputStream;"), (35, u "bootLayer"), (0, u "Ljava/lang/ModuleLayer;"), (99, .class_ 664), (0, u "java/lang/System$2"), (9, u "NEVER"), (2, u "MAYBE"), (49, u "arraycopy"), (0, u "(Ljava/lang/Object;ILjava/lang/Object;II)V"), (72, .class_ 802), (0, u "java/lang/System$Logger$Level")] 31

def k9m0 : Method := { name := "<init>", desc := "()V", sig := { parameters := [], returnType := none }, accessFlags := 2, code := none }
def k9m1 : Method := { name := "arraycopy", desc := "(Ljava/lang/Object;ILjava/lang/Object;II)V", sig := { parameters := [(.object "java/lang/Object"), .int, (.object "java/lang/Object"), .int, .int], returnType := none }, accessFlags := 265, code := none }
/-- java/lang/System -/
def k9 : Class := { plain "java/lang/System" (some 0) with
  accessFlags := 49
  interfaces := #[]
  cf := some (fileOf pool9 8 #[.nestMembers #[319, 327, 801, 108, 663, 208]] #[{ accessFlags := 2, nameIndex := 5, descriptorIndex := 6, attributes := #[] }, { accessFlags := 265, nameIndex := 727, descriptorIndex := 728, attributes := #[] }] 49 2 #[] #[{ accessFlags := 25, nameIndex := 507, descriptorIndex := 526, attributes := #[] }, { accessFlags := 25, nameIndex := 399, descriptorIndex := 155, attributes := #[] }, { accessFlags := 25, nameIndex := 396, descriptorIndex := 155, attributes := #[] }, { accessFlags := 10, nameIndex := 525, descriptorIndex := 526, attributes := #[] }, { accessFlags := 26, nameIndex := 674, descriptorIndex := 12, attributes := #[] }, { accessFlags := 26, nameIndex := 677, descriptorIndex := 12, attributes := #[] }, { accessFlags := 10, nameIndex := 11, descriptorIndex := 12, attributes := #[] }, { accessFlags := 74, nameIndex := 175, descriptorIndex := 176, attributes := #[] }, { accessFlags := 10, nameIndex := 491, descriptorIndex := 222, attributes := #[] }, { accessFlags := 74, nameIndex := 29, descriptorIndex := 30, attributes := #[] }, { accessFlags := 74, nameIndex := 154, descriptorIndex := 155, attributes := #[] }, { accessFlags := 10, nameIndex := 217, descriptorIndex := 218, attributes := #[] }, { accessFlags := 10, nameIndex := 221, descriptorIndex := 222, attributes := #[] }, { accessFlags := 8, nameIndex := 562, descriptorIndex := 563, attributes := #[] }])
  fields := #[{ name := "in", type := (.object "java/io/InputStream"), accessFlags := 25, slot := 0, constantValue := 0 }, { name := "out", type := (.object "java/io/PrintStream"), accessFlags := 25, slot := 1, constantValue := 0 }, { name := "err", type := (.object "java/io/PrintStream"), accessFlags := 25, slot := 2, constantValue := 0 }, { name := "initialIn", type := (.object "java/io/InputStream"), accessFlags := 10, slot := 3, constantValue := 0 }, { name := "NEVER", type := .int, accessFlags := 26, slot := 4, constantValue := 0 }, { name := "MAYBE", type := .int, accessFlags := 26, slot := 5, constantValue := 0 }, { name := "allowSecurityManager", type := .int, accessFlags := 10, slot := 6, constantValue := 0 }, { name := "security", type := (.object "java/lang/SecurityManager"), accessFlags := 74, slot := 7, constantValue := 0 }, { name := "notSupportedJnuEncoding", type := (.object "java/lang/String"), accessFlags := 10, slot := 8, constantValue := 0 }, { name := "cons", type := (.object "java/io/Console"), accessFlags := 74, slot := 9, constantValue := 0 }, { name := "initialErrStream", type := (.object "java/io/PrintStream"), accessFlags := 74, slot := 10, constantValue := 0 }, { name := "props", type := (.object "java/util/Properties"), accessFlags := 10, slot := 11, constantValue := 0 }, { name := "lineSeparator", type := (.object "java/lang/String"), accessFlags := 10, slot := 12, constantValue := 0 }, { name := "bootLayer", type := (.object "java/lang/ModuleLayer"), accessFlags := 8, slot := 13, constantValue := 0 }]
  methods := #[k9m0, k9m1]
  instanceTypes := #[]
  staticTypes := #[(.object "java/io/InputStream"), (.object "java/io/PrintStream"), (.object "java/io/PrintStream"), (.object "java/io/InputStream"), .int, .int, .int, (.object "java/lang/SecurityManager"), (.object "java/lang/String"), (.object "java/io/Console"), (.object "java/io/PrintStream"), (.object "java/util/Properties"), (.object "java/lang/String"), (.object "java/lang/ModuleLayer")]
  resolved := Array.replicate 834 none
  statics := none }

/-- the primitive byte -/
def k10 : Class := { plain "byte" none with kind := .primitive 'B', accessFlags := 0x411 }
/-- [B -/
def k11 : Class := { plain "[B" (some 0) with kind := .array 10 .byte, interfaces := #[5, 6], accessFlags := 1041 }

/-- the primitive int -/
def k12 : Class := { plain "int" none with kind := .primitive 'I', accessFlags := 0x411 }
/-- [I -/
def k13 : Class := { plain "[I" (some 0) with kind := .array 12 .int, interfaces := #[5, 6], accessFlags := 1041 }

def heap : Heap := #[]
def classes : Array Class := #[k0, k1, k2, k3, k4, k5, k6, k7, k8, k9, k10, k11, k12, k13]
def interned : List (Array UInt16 × Addr) := []
def slotsUsed : Nat := 0
def theMethod : MethodId := ⟨1, 1⟩
def args0 : Array Value := #[.int 5, .int 6, .int 7, .int 8, .int 9, .int 10]
def aboutOver (below : List Frame) : State where
  vm := { classes := classes, interned := interned.toArray }
  heap := heap
  slotsUsed := slotsUsed
  threads := #[{ frames := .invoking theMethod args0 :: below }]
def below0 : List Frame := [.native { method := ⟨0, 0⟩, args := #[] }]
def about1 : State := aboutOver below0
def p0 : Program := .bare "" "" ""
def e0 : Env := launch0.env 0 0 0
theorem w_frames : about1.frames = Frame.invoking theMethod args0 :: below0 := rfl
set_option maxRecDepth 65536 in
theorem w_args : argsFit about1.vm theMethod args0 = true := by decide +kernel
set_option maxRecDepth 65536 in
theorem w_heap : heapFits about1 = true := by decide +kernel
set_option maxRecDepth 65536 in
theorem w_runnable : about1.curStatus? = some .runnable := by decide +kernel
set_option maxRecDepth 65536 in
theorem w_alone : about1.alone = true := by decide +kernel
set_option maxRecDepth 65536 in
theorem w_named : about1.methodNamed? x = some theMethod := by decide +kernel
set_option maxRecDepth 65536 in
theorem w_hears : about1.hears theMethod below0 = true := by decide +kernel
set_option maxRecDepth 65536 in
theorem w_ripe : about1.ripe theMethod args0 below0 = true := by decide +kernel
theorem w_running : about1.status = .running := rfl
set_option maxRecDepth 65536 in
theorem w_room : about1.hasRoom e0.platform room_1 = true :=
  launch0.hasRoom_least _ room_1 (by decide +kernel) (by decide +kernel) (by decide +kernel) (by decide +kernel) (by decide +kernel) (by decide +kernel)
theorem allAtoms_all (ts : List Jvm.Cond) (a : Array Jvm.Value) (st : Jvm.State) : (allAtoms ts).before a st = ts.all (fun c => c.before a st) := by
  induction ts with
  | nil => rfl
  | cons c t ih =>
    show (Jvm.Cond.and c (allAtoms t)).before a st = _
    rw [Jvm.Cond.before_and, ih, List.all_cons]
def words1 : List Jvm.Cond := Jvm.Cond.code x code maxLocals ret :: tables_1
/-- a 'code' word, met by the world's own term for the bytes: nothing is compared byte by byte -/
theorem code_word {y : MethodName} {bytes : ByteArray} {mx : Nat} {rt : Option FieldType} {a : Array Value} {s : State} {m : MethodId} {meth : Method} {c : Code} (h1 : s.methodNamed? y = some m) (h2 : s.vm.method? m = some meth) (h3 : meth.code = some c) (h4 : c.code = bytes)
    (h5 : (c.maxLocals == mx && c.exceptionTable.isEmpty && decide (c.maxStack ≤ mostOperands) && decide (meth.sig.returnType = rt) && !meth.locks && decide (parseMethodDescriptor y.desc = some meth.sig)) = true) : (Jvm.Cond.code y bytes mx rt).before a s = true := by
  simp only [Bool.and_eq_true, beq_iff_eq, Bool.not_eq_true', decide_eq_true_eq] at h5
  obtain ⟨⟨⟨⟨⟨g1, g2⟩, g3⟩, g4⟩, g5⟩, g6⟩ := h5
  simp [Cond.before, Cond.holds, Cond.value, h1, h2, h3, h4, g1, g2, g3, g4, g5, g6]
def isCode : Jvm.Cond → Bool
  | .code _ _ _ _ => true
  | _ => false
theorem all_split {L : List Jvm.Cond} {P : Jvm.Cond → Bool} (h1 : L.all (fun c => isCode c || P c) = true) (h2 : ∀ c ∈ L.filter isCode, P c = true) : L.all P = true := by
  refine List.all_eq_true.mpr fun c hc => ?_
  have h := List.all_eq_true.mp h1 c hc
  rcases Bool.eq_false_or_eq_true (isCode c) with hi | hi
  · exact h2 c (List.mem_filter.mpr ⟨hc, hi⟩)
  · simpa [hi] using h
set_option maxRecDepth 65536 in
theorem w_c0 : (Jvm.Cond.code x code maxLocals ret).before args0 about1 = true := code_word (m := ⟨1, 1⟩) (meth := k1m1) (c := k1c1) (by decide +kernel) rfl rfl rfl (by decide +kernel)
set_option maxRecDepth 65536 in
theorem w_c1 : (Jvm.Cond.code ({ cls := "com/example/lehti/lehti/eval/Relation", name := "<init>", desc := "(I)V" } : Jvm.MethodName) prog_7_method_1_code (2 : Nat) (Option.none : Option Jvm.ClassFile.FieldType)).before args0 about1 = true := code_word (m := ⟨2, 0⟩) (meth := k2m0) (c := k2c0) (by decide +kernel) rfl rfl rfl (by decide +kernel)
set_option maxRecDepth 65536 in
theorem w_c2 : (Jvm.Cond.code ({ cls := "java/lang/Object", name := "<init>", desc := "()V" } : Jvm.MethodName) object_method_1_code (1 : Nat) (Option.none : Option Jvm.ClassFile.FieldType)).before args0 about1 = true := code_word (m := ⟨0, 0⟩) (meth := k0m0) (c := k0c0) (by decide +kernel) rfl rfl rfl (by decide +kernel)
set_option maxRecDepth 65536 in
theorem w_c3 : (Jvm.Cond.code ({ cls := "java/util/HashMap", name := "<init>", desc := "()V" } : Jvm.MethodName) jdk_69_method_7_code (1 : Nat) (Option.none : Option Jvm.ClassFile.FieldType)).before args0 about1 = true := code_word (m := ⟨7, 0⟩) (meth := k7m0) (c := k7c0) (by decide +kernel) rfl rfl rfl (by decide +kernel)
set_option maxRecDepth 65536 in
theorem w_c4 : (Jvm.Cond.code ({ cls := "java/util/AbstractMap", name := "<init>", desc := "()V" } : Jvm.MethodName) jdk_71_method_1_code (1 : Nat) (Option.none : Option Jvm.ClassFile.FieldType)).before args0 about1 = true := code_word (m := ⟨4, 0⟩) (meth := k4m0) (c := k4c0) (by decide +kernel) rfl rfl rfl (by decide +kernel)
set_option maxRecDepth 65536 in
theorem w_c5 : (Jvm.Cond.code ({ cls := "java/lang/Math", name := "max", desc := "(II)I" } : Jvm.MethodName) jdk_29_method_65_code (2 : Nat) (Option.some Jvm.ClassFile.FieldType.int)).before args0 about1 = true := code_word (m := ⟨8, 1⟩) (meth := k8m1) (c := k8c1) (by decide +kernel) rfl rfl rfl (by decide +kernel)
set_option maxRecDepth 65536 in
theorem w_c6 : (Jvm.Cond.code ({ cls := "com/example/lehti/lehti/eval/Relation", name := "add", desc := "([I)Z" } : Jvm.MethodName) prog_7_method_5_code (4 : Nat) (Option.some Jvm.ClassFile.FieldType.boolean)).before args0 about1 = true := code_word (m := ⟨2, 3⟩) (meth := k2m3) (c := k2c3) (by decide +kernel) rfl rfl rfl (by decide +kernel)
set_option maxRecDepth 65536 in
theorem w_c7 : (Jvm.Cond.code ({ cls := "com/example/lehti/lehti/eval/Relation", name := "hash", desc := "([III)I" } : Jvm.MethodName) prog_7_method_9_code (5 : Nat) (Option.some Jvm.ClassFile.FieldType.int)).before args0 about1 = true := code_word (m := ⟨2, 5⟩) (meth := k2m5) (c := k2c5) (by decide +kernel) rfl rfl rfl (by decide +kernel)
set_option maxRecDepth 65536 in
theorem w_c8 : (Jvm.Cond.code ({ cls := "java/util/HashMap", name := "clear", desc := "()V" } : Jvm.MethodName) jdk_69_method_22_code (3 : Nat) (Option.none : Option Jvm.ClassFile.FieldType)).before args0 about1 = true := code_word (m := ⟨7, 1⟩) (meth := k7m1) (c := k7c1) (by decide +kernel) rfl rfl rfl (by decide +kernel)
set_option maxRecDepth 65536 in
theorem w_c9 : (Jvm.Cond.code ({ cls := "com/example/lehti/lehti/eval/Relation", name := "rowEquals", desc := "(I[I)Z" } : Jvm.MethodName) prog_7_method_7_code (5 : Nat) (Option.some Jvm.ClassFile.FieldType.boolean)).before args0 about1 = true := code_word (m := ⟨2, 4⟩) (meth := k2m4) (c := k2c4) (by decide +kernel) rfl rfl rfl (by decide +kernel)
set_option maxRecDepth 65536 in
theorem w_c10 : (Jvm.Cond.code ({ cls := "com/example/lehti/lehti/eval/Relation", name := "size", desc := "()I" } : Jvm.MethodName) prog_7_method_3_code (1 : Nat) (Option.some Jvm.ClassFile.FieldType.int)).before args0 about1 = true := code_word (m := ⟨2, 1⟩) (meth := k2m1) (c := k2c1) (by decide +kernel) rfl rfl rfl (by decide +kernel)
set_option maxRecDepth 65536 in
theorem w_c11 : (Jvm.Cond.code ({ cls := "com/example/lehti/lehti/eval/Relation", name := "get", desc := "(II)I" } : Jvm.MethodName) prog_7_method_4_code (3 : Nat) (Option.some Jvm.ClassFile.FieldType.int)).before args0 about1 = true := code_word (m := ⟨2, 2⟩) (meth := k2m2) (c := k2c2) (by decide +kernel) rfl rfl rfl (by decide +kernel)
def codes1 : List Jvm.Cond := [Jvm.Cond.code x code maxLocals ret, Jvm.Cond.code ({ cls := "com/example/lehti/lehti/eval/Relation", name := "<init>", desc := "(I)V" } : Jvm.MethodName) prog_7_method_1_code (2 : Nat) (Option.none : Option Jvm.ClassFile.FieldType), Jvm.Cond.code ({ cls := "java/lang/Object", name := "<init>", desc := "()V" } : Jvm.MethodName) object_method_1_code (1 : Nat) (Option.none : Option Jvm.ClassFile.FieldType), Jvm.Cond.code ({ cls := "java/util/HashMap", name := "<init>", desc := "()V" } : Jvm.MethodName) jdk_69_method_7_code (1 : Nat) (Option.none : Option Jvm.ClassFile.FieldType), Jvm.Cond.code ({ cls := "java/util/AbstractMap", name := "<init>", desc := "()V" } : Jvm.MethodName) jdk_71_method_1_code (1 : Nat) (Option.none : Option Jvm.ClassFile.FieldType), Jvm.Cond.code ({ cls := "java/lang/Math", name := "max", desc := "(II)I" } : Jvm.MethodName) jdk_29_method_65_code (2 : Nat) (Option.some Jvm.ClassFile.FieldType.int), Jvm.Cond.code ({ cls := "com/example/lehti/lehti/eval/Relation", name := "add", desc := "([I)Z" } : Jvm.MethodName) prog_7_method_5_code (4 : Nat) (Option.some Jvm.ClassFile.FieldType.boolean), Jvm.Cond.code ({ cls := "com/example/lehti/lehti/eval/Relation", name := "hash", desc := "([III)I" } : Jvm.MethodName) prog_7_method_9_code (5 : Nat) (Option.some Jvm.ClassFile.FieldType.int), Jvm.Cond.code ({ cls := "java/util/HashMap", name := "clear", desc := "()V" } : Jvm.MethodName) jdk_69_method_22_code (3 : Nat) (Option.none : Option Jvm.ClassFile.FieldType), Jvm.Cond.code ({ cls := "com/example/lehti/lehti/eval/Relation", name := "rowEquals", desc := "(I[I)Z" } : Jvm.MethodName) prog_7_method_7_code (5 : Nat) (Option.some Jvm.ClassFile.FieldType.boolean), Jvm.Cond.code ({ cls := "com/example/lehti/lehti/eval/Relation", name := "size", desc := "()I" } : Jvm.MethodName) prog_7_method_3_code (1 : Nat) (Option.some Jvm.ClassFile.FieldType.int), Jvm.Cond.code ({ cls := "com/example/lehti/lehti/eval/Relation", name := "get", desc := "(II)I" } : Jvm.MethodName) prog_7_method_4_code (3 : Nat) (Option.some Jvm.ClassFile.FieldType.int)]
set_option maxRecDepth 65536 in
theorem codes_eq : words1.filter isCode = codes1 := rfl
theorem w_codes : ∀ c ∈ words1.filter isCode, c.before args0 about1 = true := by
  rw [codes_eq]
  intro c hc
  simp only [codes1, List.mem_cons, List.not_mem_nil, or_false] at hc
  rcases hc with rfl | rfl | rfl | rfl | rfl | rfl | rfl | rfl | rfl | rfl | rfl | rfl
  · exact w_c0
  · exact w_c1
  · exact w_c2
  · exact w_c3
  · exact w_c4
  · exact w_c5
  · exact w_c6
  · exact w_c7
  · exact w_c8
  · exact w_c9
  · exact w_c10
  · exact w_c11
set_option maxRecDepth 65536 in
theorem w_t1 : (words1.take 24).all (fun c => isCode c || c.before args0 about1) = true := by decide +kernel
set_option maxRecDepth 65536 in
theorem w_t2 : ((words1.drop 24).take 24).all (fun c => isCode c || c.before args0 about1) = true := by decide +kernel
set_option maxRecDepth 65536 in
theorem w_t3 : (((words1.drop 24).drop 24).take 24).all (fun c => isCode c || c.before args0 about1) = true := by decide +kernel
set_option maxRecDepth 65536 in
theorem w_t4 : (((words1.drop 24).drop 24).drop 24).all (fun c => isCode c || c.before args0 about1) = true := by decide +kernel
theorem w_tables : (allAtoms (Jvm.Cond.code x code maxLocals ret :: tables_1)).before args0 about1 = true := by
  rw [allAtoms_all]
  show words1.all (fun c => c.before args0 about1) = true
  refine all_split ?_ w_codes
  rw [← List.take_append_drop 24 words1, List.all_append, w_t1, ← List.take_append_drop 24 (words1.drop 24), List.all_append, w_t2, ← List.take_append_drop 24 ((words1.drop 24).drop 24), List.all_append, w_t3, w_t4]
  rfl
set_option maxRecDepth 65536 in
theorem w_case : (Jvm.Cond.and given_1 narrow_1).before args0 about1 = true := by decide +kernel
theorem w_applies : (headSpec (Jvm.Cond.code x code maxLocals ret :: tables_1) room_1).applies x e0.platform about1 = true :=
  (Spec.applies_iff w_frames).mpr ⟨w_running, w_runnable, w_alone, w_named, w_hears, w_ripe, w_room, w_tables⟩
theorem atStart : AtStart classFile x code maxLocals ret World_1 tables_1 room_1 Calls_1 rest_1 Pre_1 launch0 p0 e0 about1 theMethod args0 below0 :=
  ⟨lists_1, trivial, launch0.admits_env _ _ _, launch0.least_env, fairChoices_fair.cas, fairChoices_fair.clock, w_frames, w_args, w_heap, w_applies, trivial, trivial, w_case⟩
end start1
theorem witness_1 : WitnessClaimed_1 := ⟨start1.p0, start1.e0, start1.about1, start1.theMethod, start1.args0, start1.below0, start1.atStart⟩
end Jvm.Pilot.@@N@@
