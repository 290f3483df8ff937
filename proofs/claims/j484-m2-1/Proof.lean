import JvmDerived
import JvmDerived.Pilot.@@N@@Statement
import JvmDerived.Pilot.@@N@@Code
set_option linter.unusedVariables false
set_option linter.unusedSimpArgs false

namespace Jvm.Pilot.@@N@@
open Jvm Jvm.ClassFile Sem Op Lib Jvm.Free Jvm.Stand Jvm.LawKit Jvm.RoadKit Bundle Jvm.Pilot.@@N@@.Jvm.D


section OwnKit
variable {p : Program} {l : Launch} {e : Env} {R : Room} {s : State} {m : MethodId} {args : Array Value} {below : List Frame} {meth : Method} {c : Code} {T : State} {locs : List Loc} {cells slots : Nat} {h : Heap} {Q : Option Value → Heap → List Loc → Prop} {C S : Nat}
/-- from the state t the run comes to its end, and what it leaves answers Q -/
def own_Gl (p : Program) (e : Env) (below : List Frame) (s : State) (Q : Option Value → Heap → List Loc → Prop) (C S : Nat) (t : State) : Prop :=
  ∃ s₂ o, Steps p.tables e below t s₂ ∧ s₂.status = .running ∧ Ended s₂ below o ∧ ∃ v L, o = .returned v ∧ Q v s₂.heap L ∧ FrameEnd s o s₂ L C S
theorem own_st {t t' : State} (k : ∀ target, Steps p.tables e below t' target → Steps p.tables e below t target) (d : own_Gl p e below s Q C S t') : own_Gl p e below s Q C S t := by
  obtain ⟨s₂, o, h1, h2⟩ := d
  exact ⟨s₂, o, k _ h1, h2⟩
theorem own_tr {t t' : State} (k : Steps p.tables e below t t') (d : own_Gl p e below s Q C S t') : own_Gl p e below s Q C S t := own_st (fun _ h => k.trans h) d
theorem own_cast {g g' : JFrame} (q : g = g') (d : own_Gl p e below s Q C S (T.setTop g')) : own_Gl p e below s Q C S (T.setTop g) := q ▸ d
theorem own_ret (X : Stand p l e R s m args below meth c T locs cells slots) (hlk : meth.locks = false) {v : Option Value} {t : State} (hv : meth.sig.returnType = none → v = none) (eT : T.heap = h) (hq : Q v h locs) (hc : cells ≤ C) (hs : slots ≤ S)
    (k : ∀ fs, (∀ (f : JFrame) (acts : List Action), f.method = m → f.locked = none → f.entered = [] → (doReturn e (T.setTop f) acts v).1 = T.setFrames fs) → Steps p.tables e below t (T.setFrames fs)) : own_Gl p e below s Q C S t := by
  obtain ⟨fs, hr, hrun, hended, hW, hsame⟩ := X.leave hv hlk
  exact ⟨_, _, k fs hr, hrun, hended, v, locs, rfl, by show Q v T.heap locs; rw [eT]; exact hq, ⟨_, rfl⟩, hW, hsame.mono hc hs⟩
theorem own_retI (X : Stand p l e R s m args below meth c T locs cells slots) (hx : p.tables.exec = Jvm.exec) (hlk : meth.locks = false) {pc : Nat} {Ls : Array Slot} {z : Int32} {rest : List Value} (hret : meth.sig.returnType = some .int) (hd : decode c.code pc = .ok (.ireturn, 1)) (eT : T.heap = h) (hq : Q (some (.int z)) h locs) (hc : cells ≤ C) (hs : slots ≤ S) :
    own_Gl p e below s Q C S (T.setTop (mkF m pc Ls (.int z :: rest))) :=
  own_ret X hlk (fun q => by rw [hret] at q; cases q) eT hq hc hs (fun _ hr => retOut X hx hret rfl (Or.inl ⟨rfl, Or.inl rfl, _, rfl⟩) hd hr)
theorem own_retN (X : Stand p l e R s m args below meth c T locs cells slots) (hx : p.tables.exec = Jvm.exec) (hlk : meth.locks = false) {pc : Nat} {Ls : Array Slot} {z : Int32} {t : FieldType} {rest : List Value} (hret : meth.sig.returnType = some t) (ht : t = .boolean ∨ t = .byte ∨ t = .char ∨ t = .short) (hd : decode c.code pc = .ok (.ireturn, 1)) (eT : T.heap = h) (hq : Q (some (.int (nar t z))) h locs) (hc : cells ≤ C) (hs : slots ≤ S) :
    own_Gl p e below s Q C S (T.setTop (mkF m pc Ls (.int z :: rest))) :=
  own_ret X hlk (fun q => by rw [hret] at q; cases q) eT hq hc hs (fun _ hr => retN X hx hret ht hd hr)
theorem own_retJ (X : Stand p l e R s m args below meth c T locs cells slots) (hx : p.tables.exec = Jvm.exec) (hlk : meth.locks = false) {pc : Nat} {Ls : Array Slot} {z : Int64} {rest : List Value} (hret : meth.sig.returnType = some .long) (hd : decode c.code pc = .ok (.lreturn, 1)) (eT : T.heap = h) (hq : Q (some (.long z)) h locs) (hc : cells ≤ C) (hs : slots ≤ S) :
    own_Gl p e below s Q C S (T.setTop (mkF m pc Ls (.long z :: rest))) :=
  own_ret X hlk (fun q => by rw [hret] at q; cases q) eT hq hc hs (fun _ hr => retOut X hx hret rfl (Or.inr (Or.inl ⟨rfl, rfl, _, rfl⟩)) hd hr)
theorem own_retA (X : Stand p l e R s m args below meth c T locs cells slots) (hx : p.tables.exec = Jvm.exec) (hlk : meth.locks = false) {pc : Nat} {Ls : Array Slot} {w : Value} {t : FieldType} {rest : List Value} (hret : meth.sig.returnType = some t) (ht : t.isReference = true) (hw : w.isRef = true) (hn : narrow t w = w) (hd : decode c.code pc = .ok (.areturn, 1)) (eT : T.heap = h) (hq : Q (some w) h locs) (hc : cells ≤ C) (hs : slots ≤ S) :
    own_Gl p e below s Q C S (T.setTop (mkF m pc Ls (w :: rest))) :=
  own_ret X hlk (fun q => by rw [hret] at q; cases q) eT hq hc hs (fun _ hr => retOut X hx hret hn (Or.inr (Or.inr (Or.inr (Or.inr ⟨rfl, ht, hw⟩)))) hd hr)
theorem own_retV (X : Stand p l e R s m args below meth c T locs cells slots) (hx : p.tables.exec = Jvm.exec) (hlk : meth.locks = false) {pc : Nat} {Ls : Array Slot} (hret : meth.sig.returnType = none) (hd : decode c.code pc = .ok (.return_, 1)) (eT : T.heap = h) (hq : Q none h locs) (hc : cells ≤ C) (hs : slots ≤ S) :
    own_Gl p e below s Q C S (T.setTop (mkF m pc Ls [])) :=
  own_ret X hlk (fun _ => rfl) eT hq hc hs (fun _ hr => X.returnOut hx hret hd hr)
end OwnKit


/-- the array's list by its function -/
def own_fl (n : Nat) (f : Nat → Int32) : List Value := (List.range n).map fun i => Value.int (f i)
theorem own_fl_len (n : Nat) (f : Nat → Int32) : (own_fl n f).length = n := by simp [own_fl]
theorem own_fl_get (n : Nat) (f : Nat → Int32) (i : Nat) (d : Value) (h : i < n) : (own_fl n f).getD i d = Value.int (f i) := by
  simp [own_fl, List.getD, h]
theorem own_fl_set (n : Nat) (f : Nat → Int32) (i : Nat) (v : Int32) : (own_fl n f).set i (Value.int v) = own_fl n (fun j => if j = i then v else f j) := by
  apply List.ext_getElem
  · simp [own_fl]
  · intro j h1 h2
    simp only [own_fl, List.getElem_set, List.getElem_map, List.getElem_range]
    by_cases q : i = j
    · subst q; simp
    · have q2 : ¬ j = i := fun z => q z.symm
      simp [q, q2]
theorem own_nat {i : Int32} (h : ¬ i < 0) : (i.toNatClampNeg : Int) = i.toInt := (nat_of h).symm
theorem own_natlt {i z : Int32} (h0 : ¬ i < 0) (h : i < z) : i.toNatClampNeg < z.toNatClampNeg := by
  have e0 : (0 : Int32).toInt = 0 := by decide
  have h1 := h; have h2 := h0
  rw [Int32.lt_iff_toInt_lt] at h1 h2
  have hz : ¬ z < 0 := by rw [Int32.lt_iff_toInt_lt]; omega
  have q1 := own_nat h0; have q2 := own_nat hz
  omega


def own_ones (i : Nat) : Int32 := Int32.ofNat (48 + i % 10)
def own_tens (i : Nat) : Int32 := Int32.ofNat (48 + i / 10)
theorem own_ones_v : ∀ i, i < 100 → (own_ones i).toInt = ((48 + i % 10 : Nat) : Int) := by decide +kernel
theorem own_tens_v : ∀ i, i < 100 → (own_tens i).toInt = ((48 + i / 10 : Nat) : Int) := by decide +kernel
theorem own_nc (v : Int32) (h : 0 ≤ v.toInt ∧ v.toInt ≤ 65535) : nar .char v = v := by
  have c := c_i2c v
  show v.toUInt32.toUInt16.toUInt32.toInt32 = v
  apply Int32.toInt_inj.mp
  omega
def own_sp (Y C e P i : Nat) : Int := if i < P ∨ e ≤ i then 0 else if i = e - 1 then ((48 + C % 10 : Nat) : Int) else if i = e - 2 then ((48 + C / 10 : Nat) : Int) else if i = e - 3 then 46 else ((48 + Y / 10 ^ (e - 4 - i) % 10 : Nat) : Int)
def own_G (Y C e P : Nat) (g : Nat → Int32) : Prop := ∀ i, i < 26 → (g i).toInt = own_sp Y C e P i
theorem own_G_step {Y C e P : Nat} {g : Nat → Int32} (h1 : 1 ≤ P) (h2 : P + 3 ≤ e) (hG : own_G Y C e P g) (v : Int32) (hv : v.toInt = ((48 + Y / 10 ^ (e - 3 - P) % 10 : Nat) : Int)) : own_G Y C e (P - 1) (fun q => if q = P - 1 then nar .char v else g q) := by
  intro i hi
  have hn : nar .char v = v := own_nc v ⟨by omega, by omega⟩
  by_cases q : i = P - 1
  · show (if i = P - 1 then nar .char v else g i).toInt = _
    rw [if_pos q, hn, hv]
    unfold own_sp
    rw [if_neg (by omega), if_neg (by omega), if_neg (by omega), if_neg (by omega)]
    rw [show e - 4 - i = e - 3 - P by omega]
  · show (if i = P - 1 then nar .char v else g i).toInt = _
    rw [if_neg q, hG i hi]
    unfold own_sp
    by_cases c1 : i < P ∨ e ≤ i
    · have c2 : i < P - 1 ∨ e ≤ i := by omega
      rw [if_pos c1, if_pos c2]
    · have c2 : ¬ (i < P - 1 ∨ e ≤ i) := by omega
      rw [if_neg c1, if_neg c2]
theorem own_G_init (Y C e : Nat) (h4 : 4 ≤ e) (hC : C < 100) : own_G Y C e (e - 3) (fun q => if q = e - 3 then nar .char (46 : Int32) else (fun q => if q = e - 2 then nar .char (own_tens C) else (fun q => if q = e - 1 then nar .char (own_ones C) else (fun _ => (0 : Int32)) q) q) q) := by
  intro i hi
  have e1 : nar .char (own_tens C) = own_tens C := own_nc _ (by rw [own_tens_v C hC]; omega)
  have e2 : nar .char (own_ones C) = own_ones C := own_nc _ (by rw [own_ones_v C hC]; omega)
  have e3 : nar .char (46 : Int32) = (46 : Int32) := by decide
  show (if i = e - 3 then nar .char (46 : Int32) else if i = e - 2 then nar .char (own_tens C) else if i = e - 1 then nar .char (own_ones C) else (0 : Int32)).toInt = _
  unfold own_sp
  rw [e1, e2, e3]
  by_cases q3 : i = e - 3
  · rw [if_pos q3, if_neg (by omega), if_neg (by omega), if_neg (by omega), if_pos q3]; decide
  · by_cases q2 : i = e - 2
    · rw [if_neg q3, if_pos q2, if_neg (by omega), if_neg (by omega), if_pos q2, own_tens_v C hC]
    · by_cases q1 : i = e - 1
      · rw [if_neg q3, if_neg q2, if_pos q1, if_neg (by omega), if_pos q1, own_ones_v C hC]
      · rw [if_neg q3, if_neg q2, if_neg q1, if_pos (by omega)]; decide
theorem own_G_cast {Y C e P P' : Nat} {g : Nat → Int32} (h : P = P') (hG : own_G Y C e P g) : own_G Y C e P' g := h ▸ hG
theorem own_knz {x z : Int32} {k n : Nat} (hk : x.toInt = (k : Int)) (h : x = z) (hz : z.toInt = (n : Int)) : k = n := by rw [h] at hk; omega
def own_fs (Y C la N dn i : Nat) : Int := if i < la ∨ la + N + dn + 3 ≤ i then 0 else if i < la + N then 45 else own_sp Y C (la + N + dn + 3) (la + N) i
theorem own_fs0 {Y C la dn N : Nat} {g : Nat → Int32} (hN : N = 0) (hG : own_G Y C (la + N + dn + 3) (la + N) g) : ∀ i, i < 26 → (g i).toInt = own_fs Y C la N dn i := by
  intro i hi
  rw [hG i hi]
  unfold own_fs
  by_cases c : i < la ∨ la + N + dn + 3 ≤ i
  · rw [if_pos c]; unfold own_sp; rw [if_pos (by omega)]
  · rw [if_neg c, if_neg (by omega)]
theorem own_fs1 {Y C la dn N : Nat} {g : Nat → Int32} (hN : N = 1) (hG : own_G Y C (la + N + dn + 3) (la + N) g) : ∀ i, i < 26 → ((fun q => if q = la then nar .char (45 : Int32) else g q) i).toInt = own_fs Y C la N dn i := by
  intro i hi
  have e3 : nar .char (45 : Int32) = (45 : Int32) := by decide
  show (if i = la then nar .char (45 : Int32) else g i).toInt = _
  unfold own_fs
  by_cases q : i = la
  · rw [if_pos q, if_neg (by omega), if_pos (by omega), e3]; decide
  · rw [if_neg q, hG i hi]
    by_cases c : i < la ∨ la + N + dn + 3 ≤ i
    · rw [if_pos c]; unfold own_sp; rw [if_pos (by omega)]
    · rw [if_neg c, if_neg (by omega)]
def own_ev (Y C dn k : Nat) : Int := if k = 0 then ((48 + C % 10 : Nat) : Int) else if k = 1 then ((48 + C / 10 : Nat) : Int) else if k = 2 then 46 else if k < dn + 3 then ((48 + Y / 10 ^ (k - 3) % 10 : Nat) : Int) else 45
theorem own_cell (Y C la N dn i : Nat) (hN : N ≤ 1) (h1 : ¬ i < la) (h2 : i < la + N + dn + 3) : own_fs Y C la N dn i = own_ev Y C dn (la + N + dn + 3 - 1 - i) := by
  unfold own_fs own_ev
  rw [if_neg (by omega)]
  by_cases k0 : la + N + dn + 3 - 1 - i = 0
  · rw [if_pos k0, if_neg (by omega)]; unfold own_sp; rw [if_neg (by omega), if_pos (by omega)]
  · rw [if_neg k0]
    by_cases k1 : la + N + dn + 3 - 1 - i = 1
    · rw [if_pos k1, if_neg (by omega)]; unfold own_sp; rw [if_neg (by omega), if_neg (by omega), if_pos (by omega)]
    · rw [if_neg k1]
      by_cases k2 : la + N + dn + 3 - 1 - i = 2
      · rw [if_pos k2, if_neg (by omega)]; unfold own_sp; rw [if_neg (by omega), if_neg (by omega), if_neg (by omega), if_pos (by omega)]
      · rw [if_neg k2]
        by_cases k3 : la + N + dn + 3 - 1 - i < dn + 3
        · rw [if_pos k3, if_neg (by omega)]; unfold own_sp; rw [if_neg (by omega), if_neg (by omega), if_neg (by omega), if_neg (by omega)]
          rw [show la + N + dn + 3 - 4 - i = la + N + dn + 3 - 1 - i - 3 by omega]
        · rw [if_neg k3, if_pos (by omega)]
theorem own_d1 (y : Int64) (Z : Nat) (hy : y.toInt = (Z : Int)) : (((((48 : Int64) + (y - (y / (10 : Int64)) * (10 : Int64))).toInt32).toUInt32.toUInt16.toUInt32.toInt32)).toInt = ((48 + Z % 10 : Nat) : Int) := by
  have e10 : (10 : Int64).toInt = 10 := by decide
  have e48 : (48 : Int64).toInt = 48 := by decide
  have h := (c_lrem y (10 : Int64) 10 e10).1 (by omega)
  generalize y - (y / (10 : Int64)) * (10 : Int64) = r at *
  have a := c_ladd (48 : Int64) r
  have ra := rng64 ((48 : Int64) + r)
  generalize (48 : Int64) + r = w at *
  have l := c_l2i w
  have c := c_i2c w.toInt32
  have rl := rng32 w.toInt32
  omega
theorem own_dv (y : Int64) (Z : Nat) (hy : y.toInt = (Z : Int)) : (y / (10 : Int64)).toInt = ((Z / 10 : Nat) : Int) := by
  have e10 : (10 : Int64).toInt = 10 := by decide
  have h := (c_ldiv y (10 : Int64) 10 e10 (by decide)).1 (by omega)
  omega
theorem own_pw (Y j : Nat) : Y / 10 ^ j / 10 = Y / 10 ^ (j + 1) := by rw [Nat.div_div_eq_div_mul, Nat.pow_succ]
theorem own_pw2 (Y j : Nat) : Y / 10 ^ j / 100 = Y / 10 ^ (j + 2) := by rw [Nat.div_div_eq_div_mul, Nat.pow_add]
theorem own_jlt {Y dn j : Nat} (hY : Y < 10 ^ dn) (hj : j < dn) (h : 10 ≤ Y / 10 ^ j) : j + 1 < dn := by
  apply Classical.byContradiction
  intro hc
  obtain rfl : dn = j + 1 := by omega
  rw [Nat.pow_succ, Nat.mul_comm] at hY
  have := (Nat.div_lt_iff_lt_mul (Nat.pow_pos (n := j) (by decide : 0 < 10))).mpr hY
  omega
theorem own_jlt2 {Y dn j : Nat} (hY : Y < 10 ^ dn) (hj : j < dn) (h : 100 ≤ Y / 10 ^ j) : j + 2 < dn := by
  have h1 := own_jlt hY hj (by omega)
  exact own_jlt hY h1 (by rw [← own_pw]; omega)
theorem own_jend {Y dn j : Nat} (hj : j < dn) (hb : dn = 1 ∨ 10 ^ (dn - 1) ≤ Y) (h : Y / 10 ^ j < 10) : dn = j + 1 := by
  apply Classical.byContradiction
  intro hc
  have h2 : 10 ^ (j + 1) ≤ Y := Nat.le_trans (Nat.pow_le_pow_right (by decide) (by omega)) (hb.resolve_left (by omega))
  rw [Nat.pow_succ, Nat.mul_comm] at h2
  have := (Nat.le_div_iff_mul_le (Nat.pow_pos (n := j) (by decide : 0 < 10))).mpr h2
  omega
theorem own_jend2 {Y dn j : Nat} (hY : Y < 10 ^ dn) (hj : j < dn) (hb : dn = 1 ∨ 10 ^ (dn - 1) ≤ Y) (h1 : 10 ≤ Y / 10 ^ j) (h2 : Y / 10 ^ j < 100) : dn = j + 2 :=
  own_jend (own_jlt hY hj h1) hb (by rw [← own_pw]; omega)
theorem own_p17 {Y d : Nat} (hY : Y ≤ 92233720368547758) (hd : d ≤ 17) (h : 10 ^ d ≤ Y) : d < 17 := by
  apply Classical.byContradiction
  intro hc
  obtain rfl : d = 17 := by omega
  have e : (10 : Nat) ^ 17 = 100000000000000000 := by decide
  omega
theorem own_lim {d : Nat} (lim : Int64) (h : lim.toInt = ((10 ^ d : Nat) : Int)) (hd : d < 17) : (lim * (10 : Int64)).toInt = ((10 ^ (d + 1) : Nat) : Int) := by
  have e10 : (10 : Int64).toInt = 10 := by decide
  have m := c_lmul lim (10 : Int64)
  have r := rng64 (lim * (10 : Int64))
  have q : 10 ^ d ≤ 10 ^ 16 := Nat.pow_le_pow_right (by decide) (by omega)
  have e : (10 : Nat) ^ 16 = 10000000000000000 := by decide
  rw [Nat.pow_succ]
  rw [e10, h] at m
  generalize 10 ^ d = T at *
  omega
theorem own_c1 {d : Nat} (c : Int32) (h : c.toInt = (d : Int)) (hd : d < 17) : (c + (1 : Int32)).toInt = ((d + 1 : Nat) : Int) := by
  have a := c_iadd c (1 : Int32); have r := rng32 (c + (1 : Int32)); have e : (1 : Int32).toInt = 1 := by decide
  omega

theorem own_m1 (q : Int64) {Y C : Nat} (hA : q.toInt.natAbs = 100 * Y + C) (h : q < (0 : Int64)) : q.toInt = -((100 * Y + C : Nat) : Int) := by
  have e0 : (0 : Int64).toInt = 0 := by decide
  rw [Int64.lt_iff_toInt_lt] at h
  omega
theorem own_m2 (q : Int64) {Y C : Nat} (hA : q.toInt.natAbs = 100 * Y + C) (h : ¬ q < (0 : Int64)) : (-q).toInt = -((100 * Y + C : Nat) : Int) := by
  have e0 : (0 : Int64).toInt = 0 := by decide
  rw [Int64.lt_iff_toInt_lt] at h
  have n := c_lneg q; have r := rng64 (-q); have r2 := rng64 q
  omega
theorem own_Yb {q : Int64} {Y C : Nat} (hA : q.toInt.natAbs = 100 * Y + C) : Y ≤ 92233720368547758 := by
  have r2 := rng64 q
  omega
theorem own_yu (m : Int64) {Y C : Nat} (hm : m.toInt = -((100 * Y + C : Nat) : Int)) (hC : C < 100) : (-(m / (100 : Int64))).toInt = (Y : Int) := by
  have e : (100 : Int64).toInt = 100 := by decide
  have h := c_ldiv m (100 : Int64) 100 e (by decide)
  have n := c_lneg (m / (100 : Int64)); have r := rng64 (-(m / (100 : Int64))); have r2 := rng64 m
  by_cases z : 0 ≤ m.toInt
  · have := h.1 z; omega
  · have := h.2 (by omega); omega
theorem own_ce (m : Int64) {Y C : Nat} (hm : m.toInt = -((100 * Y + C : Nat) : Int)) (hC : C < 100) : ((-(m - (m / (100 : Int64)) * (100 : Int64))).toInt32).toInt = (C : Int) := by
  have e : (100 : Int64).toInt = 100 := by decide
  have h := c_lrem m (100 : Int64) 100 e
  generalize m - (m / (100 : Int64)) * (100 : Int64) = w at *
  have n := c_lneg w; have r := rng64 (-w)
  have l := c_l2i (-w); have rl := rng32 (-w).toInt32
  by_cases z : 0 ≤ m.toInt
  · have := h.1 z; omega
  · have := h.2 (by omega); omega
theorem own_en {pl ng w : Int32} {la N dn : Nat} (h1 : pl.toInt = (la : Int)) (h1' : la ≤ 3) (h2 : ng.toInt = (N : Int)) (h2' : N ≤ 1) (h3 : w.toInt = (dn : Int)) (h3' : dn ≤ 17) : ((((pl + ng) + w) + (1 : Int32)) + (2 : Int32)).toInt = ((la + N + dn + 3 : Nat) : Int) := by
  have a1 := c_iadd pl ng; have r1 := rng32 (pl + ng)
  generalize pl + ng = x1 at *
  have a2 := c_iadd x1 w; have r2 := rng32 (x1 + w)
  generalize x1 + w = x2 at *
  have a3 := c_iadd x2 (1 : Int32); have r3 := rng32 (x2 + (1 : Int32))
  generalize x2 + (1 : Int32) = x3 at *
  have a4 := c_iadd x3 (2 : Int32); have r4 := rng32 (x3 + (2 : Int32))
  have e1 : (1 : Int32).toInt = 1 := by decide
  have e2 : (2 : Int32).toInt = 2 := by decide
  omega
theorem own_natI {i : Int32} {n : Nat} (h : i.toInt = (n : Int)) : i.toNatClampNeg = n := by
  have e0 : (0 : Int32).toInt = 0 := by decide
  have h0 : ¬ i < 0 := by rw [Int32.lt_iff_toInt_lt]; omega
  have := nat_of h0
  omega
theorem own_inI {i z : Int32} {n k : Nat} (h : i.toInt = (n : Int)) (hz : z.toInt = (k : Int)) (hk : n < k) : ¬ i < 0 ∧ i < z := by
  have e0 : (0 : Int32).toInt = 0 := by decide
  rw [Int32.lt_iff_toInt_lt, Int32.lt_iff_toInt_lt]; omega
theorem own_subI {i k : Int32} {n kn : Nat} (h : i.toInt = (n : Int)) (hk : k.toInt = (kn : Int)) (hle : kn ≤ n) : (i - k).toInt = ((n - kn : Nat) : Int) := by
  have a := c_isub i k; have r := rng32 (i - k); have r2 := rng32 i
  omega
theorem own_addI {i k : Int32} {n kn : Nat} (h : i.toInt = (n : Int)) (hk : k.toInt = (kn : Int)) (hle : n + kn < 2147483648) : (i + k).toInt = ((n + kn : Nat) : Int) := by
  have a := c_iadd i k; have r := rng32 (i + k); have r2 := rng32 i
  omega
theorem own_decI {i : Int32} {n : Nat} (h : i.toInt = (n : Int)) (hle : 1 ≤ n) : (i + (-1 : Int32)).toInt = ((n - 1 : Nat) : Int) := by
  have a := c_iadd i (-1 : Int32); have r := rng32 (i + (-1 : Int32)); have r2 := rng32 i
  have e : (-1 : Int32).toInt = -1 := by decide
  omega
theorem own_rem100 {y : Int32} {Z : Nat} (h : y.toInt = (Z : Int)) : (y % (100 : Int32)).toInt = ((Z % 100 : Nat) : Int) := by
  have e : (100 : Int32).toInt = 100 := by decide
  have q := (c_irem y (100 : Int32) 100 e).1 (by omega)
  omega
theorem own_div100 {y : Int32} {Z : Nat} (h : y.toInt = (Z : Int)) : (y / (100 : Int32)).toInt = ((Z / 100 : Nat) : Int) := by
  have e : (100 : Int32).toInt = 100 := by decide
  have q := (c_idiv y (100 : Int32) 100 e (by decide)).1 (by omega)
  omega
theorem own_l2i {y : Int64} {Z : Nat} (h : y.toInt = (Z : Int)) (hle : ¬ (2147483647 : Int64) < y) : y.toInt32.toInt = (Z : Int) := by
  have e : (2147483647 : Int64).toInt = 2147483647 := by decide
  rw [Int64.lt_iff_toInt_lt] at hle
  have l := c_l2i y; have rl := rng32 y.toInt32
  omega
theorem own_gt10 {y : Int64} {Z : Nat} (h : y.toInt = (Z : Int)) (hle : (2147483647 : Int64) < y) : 10 ≤ Z := by
  have e : (2147483647 : Int64).toInt = 2147483647 := by decide
  rw [Int64.lt_iff_toInt_lt] at hle
  omega
theorem own_ltI {i k : Int32} {n kn : Nat} (h : i.toInt = (n : Int)) (hk : k.toInt = (kn : Int)) : i < k ↔ n < kn := by
  rw [Int32.lt_iff_toInt_lt]; omega
theorem own_ltJ {i k : Int64} {n kn : Nat} (h : i.toInt = (n : Int)) (hk : k.toInt = (kn : Int)) : i < k ↔ n < kn := by
  rw [Int64.lt_iff_toInt_lt]; omega
theorem own_eqII {i k : Int32} {z : Int} (h : i.toInt = z) (hk : k.toInt = z) : i = k := Int32.toInt_inj.mp (h.trans hk.symm)
theorem own_10 : ∀ i, i < 18 → (Int64.ofNat (10 ^ i)).toInt = ((10 ^ i : Nat) : Int) := by decide +kernel
theorem own_absJ {x : Int64} {Z : Nat} (h : x.toInt.natAbs = Z) (hb : Z < 9223372036854775808) : (if x < (0 : Int64) then (-x) else x).toInt = (Z : Int) := by
  have e0 : (0 : Int64).toInt = 0 := by decide
  have n := c_lneg x; have r := rng64 (-x)
  by_cases q : x < (0 : Int64)
  · rw [if_pos q]; rw [Int64.lt_iff_toInt_lt] at q; omega
  · rw [if_neg q]; rw [Int64.lt_iff_toInt_lt] at q; omega
theorem own_absY {q : Int64} {Y C : Nat} (hA : q.toInt.natAbs = 100 * Y + C) (hC : C < 100) : (q / (100 : Int64)).toInt.natAbs = Y := by
  have e : (100 : Int64).toInt = 100 := by decide
  have h := c_ldiv q (100 : Int64) 100 e (by decide)
  by_cases z : 0 ≤ q.toInt
  · have := h.1 z; omega
  · have := h.2 (by omega); omega
theorem own_absC {q : Int64} {Y C : Nat} (hA : q.toInt.natAbs = 100 * Y + C) (hC : C < 100) : (q - (q / (100 : Int64)) * (100 : Int64)).toInt.natAbs = C := by
  have e : (100 : Int64).toInt = 100 := by decide
  have h := c_lrem q (100 : Int64) 100 e
  by_cases z : 0 ≤ q.toInt
  · have := h.1 z; omega
  · have := h.2 (by omega); omega
theorem own_cl2i {y : Int64} {Z : Nat} (h : y.toInt = (Z : Int)) (hle : Z < 100) : y.toInt32.toInt = (Z : Int) := by
  have l := c_l2i y; have rl := rng32 y.toInt32
  omega
theorem own_x0 {c : Int32} {C : Nat} (h : c.toInt = (C : Int)) (hC : C < 100) : (nar .char (((48 : Int32) + (c % (10 : Int32))).toUInt32.toUInt16.toUInt32.toInt32)).toInt = ((48 + C % 10 : Nat) : Int) := by
  have e : (10 : Int32).toInt = 10 := by decide
  have e48 : (48 : Int32).toInt = 48 := by decide
  have q := (c_irem c (10 : Int32) 10 e).1 (by omega)
  have a := c_iadd (48 : Int32) (c % (10 : Int32)); have r := rng32 ((48 : Int32) + (c % (10 : Int32)))
  have w := c_i2c ((48 : Int32) + (c % (10 : Int32)))
  rw [own_nc _ (by omega)]
  omega
theorem own_x1 {c : Int32} {C : Nat} (h : c.toInt = (C : Int)) (hC : C < 100) : (nar .char (((48 : Int32) + (c / (10 : Int32))).toUInt32.toUInt16.toUInt32.toInt32)).toInt = ((48 + C / 10 : Nat) : Int) := by
  have e : (10 : Int32).toInt = 10 := by decide
  have e48 : (48 : Int32).toInt = 48 := by decide
  have q := (c_idiv c (10 : Int32) 10 e (by decide)).1 (by omega)
  have a := c_iadd (48 : Int32) (c / (10 : Int32)); have r := rng32 ((48 : Int32) + (c / (10 : Int32)))
  have w := c_i2c ((48 : Int32) + (c / (10 : Int32)))
  rw [own_nc _ (by omega)]
  omega
theorem own_nz10 {m : Nat} (h : m < 18) : ¬ (Int64.ofNat (10 ^ m)) = (0 : Int64) := by
  intro q
  have e := own_10 m h
  rw [q] at e
  have e0 : (0 : Int64).toInt = 0 := by decide
  have := Nat.pow_pos (n := m) (by decide : 0 < 10)
  generalize 10 ^ m = T at *
  omega
theorem own_x3 {y : Int64} {Y m : Nat} (h : y.toInt = (Y : Int)) (hm : m < 18) : (nar .char (((48 : Int32) + (((y / (Int64.ofNat (10 ^ m))) - ((y / (Int64.ofNat (10 ^ m))) / (10 : Int64)) * (10 : Int64)).toInt32)).toUInt32.toUInt16.toUInt32.toInt32)).toInt = ((48 + Y / 10 ^ m % 10 : Nat) : Int) := by
  have e := own_10 m hm
  have hp := Nat.pow_pos (n := m) (by decide : 0 < 10)
  have e1 : (Int64.ofNat (10 ^ m)) ≠ -1 := by
    intro q
    rw [q] at e
    have e0 : (-1 : Int64).toInt = -1 := by decide
    generalize 10 ^ m = T at *
    omega
  have q := (c_ldiv y (Int64.ofNat (10 ^ m)) _ e e1).1 (by omega)
  rw [h] at q
  have q2 : (y / (Int64.ofNat (10 ^ m))).toInt = ((Y / 10 ^ m : Nat) : Int) := by rw [q]; rfl
  generalize y / (Int64.ofNat (10 ^ m)) = w at *
  generalize Y / 10 ^ m = T at *
  have e10 : (10 : Int64).toInt = 10 := by decide
  have hr := (c_lrem w (10 : Int64) 10 e10).1 (by omega)
  generalize w - (w / (10 : Int64)) * (10 : Int64) = r at *
  have l := c_l2i r; have rl := rng32 r.toInt32
  have e48 : (48 : Int32).toInt = 48 := by decide
  have a := c_iadd (48 : Int32) r.toInt32; have ra := rng32 ((48 : Int32) + r.toInt32)
  have c := c_i2c ((48 : Int32) + r.toInt32)
  rw [own_nc _ (by omega)]
  omega


def own_pls : List Value := [(.long (1 : Int64)), (.long (10 : Int64)), (.long (100 : Int64)), (.long (1000 : Int64)), (.long (10000 : Int64)), (.long (100000 : Int64)), (.long (1000000 : Int64)), (.long (10000000 : Int64)), (.long (100000000 : Int64)), (.long (1000000000 : Int64)), (.long (10000000000 : Int64)), (.long (100000000000 : Int64)), (.long (1000000000000 : Int64)), (.long (10000000000000 : Int64)), (.long (100000000000000 : Int64)), (.long (1000000000000000 : Int64)), (.long (10000000000000000 : Int64)), (.long (100000000000000000 : Int64))]
theorem own_pl : ∀ i, i < 18 → own_pls.getD i (.long (0 : Int64)) = .long (Int64.ofNat (10 ^ i)) := by
  intro i hi
  have q : ∀ n : Fin 18, own_pls.getD n.1 (.long (0 : Int64)) = .long (Int64.ofNat (10 ^ n.1)) := by
    intro n
    match n with
    | ⟨0, _⟩ => rfl
    | ⟨1, _⟩ => rfl
    | ⟨2, _⟩ => rfl
    | ⟨3, _⟩ => rfl
    | ⟨4, _⟩ => rfl
    | ⟨5, _⟩ => rfl
    | ⟨6, _⟩ => rfl
    | ⟨7, _⟩ => rfl
    | ⟨8, _⟩ => rfl
    | ⟨9, _⟩ => rfl
    | ⟨10, _⟩ => rfl
    | ⟨11, _⟩ => rfl
    | ⟨12, _⟩ => rfl
    | ⟨13, _⟩ => rfl
    | ⟨14, _⟩ => rfl
    | ⟨15, _⟩ => rfl
    | ⟨16, _⟩ => rfl
    | ⟨17, _⟩ => rfl
    | ⟨n + 18, h⟩ => exact absurd h (by omega)
  exact q ⟨i, hi⟩
theorem own_onef : ∀ i, i < 100 → fits .char (.int (own_ones i)) = true := by decide +kernel
theorem own_tenf : ∀ i, i < 100 → fits .char (.int (own_tens i)) = true := by decide +kernel

theorem own_d_jdk_29_method_61_code_0 : decode jdk_29_method_61_code 0 = .ok (.lload_n 0, 1) := by decide +kernel
theorem own_d_jdk_29_method_61_code_1 : decode jdk_29_method_61_code 1 = .ok (.lconst 0, 1) := by decide +kernel
theorem own_d_jdk_29_method_61_code_2 : decode jdk_29_method_61_code 2 = .ok (.lcmp, 1) := by decide +kernel
theorem own_d_jdk_29_method_61_code_3 : decode jdk_29_method_61_code 3 = .ok (.ifCond .ge 8, 3) := by decide +kernel
theorem own_d_jdk_29_method_61_code_6 : decode jdk_29_method_61_code 6 = .ok (.lload_n 0, 1) := by decide +kernel
theorem own_d_jdk_29_method_61_code_7 : decode jdk_29_method_61_code 7 = .ok (.lneg, 1) := by decide +kernel
theorem own_d_jdk_29_method_61_code_8 : decode jdk_29_method_61_code 8 = .ok (.goto 4, 3) := by decide +kernel
theorem own_d_jdk_29_method_61_code_12 : decode jdk_29_method_61_code 12 = .ok (.lreturn, 1) := by decide +kernel
theorem own_d_jdk_29_method_61_code_11 : decode jdk_29_method_61_code 11 = .ok (.lload_n 0, 1) := by decide +kernel
theorem own_ef_own_abs (m : MethodId) (x0 : Int64) : entryFrame m #[(.long x0)] 2 = mkF m 0 #[.val (.long x0), .second] [] := by first | (simp [entryFrame, mkF, argsToLocals, Value.category]; done) | rfl
def own_Q_own_abs (Z : State) (q1 : Int64) (h0 : Heap) (n0 : Nat) (v : Option Value) (h : Heap) (L : List Loc) : Prop := (v = some (.long (if q1 < (0 : Int64) then (-q1) else q1))) ∧ (Fr n0 L) ∧ (h = h0)
set_option maxRecDepth 65536 in
set_option maxHeartbeats 40000000 in
theorem own_abs (l : Launch) (Z : State) (a0 : Array Value) (hw : ∀ d ∈ tables_1, d.before a0 Z = true) (ws : List Jvm.Cond) (q1 : Int64) (h0 : Heap) (n0 : Nat) (Z0 : n0 ≤ h0.size) :
    MetFree l (⟨"java/lang/Math", "abs", "(J)J"⟩ : MethodName) (head1 (Jvm.Cond.code (⟨"java/lang/Math", "abs", "(J)J"⟩ : MethodName) jdk_29_method_61_code 2 (some .long) :: ws) ({ frames := 0, cells := 0, slots := 0, locals := 0 } : Room)) (fun xa xU => xa = #[(.long q1)] ∧ Z.Warmed39 xU.vm ∧ xU.heap = h0) (fun _ _ _ _ _ => True) (fun _ xU xo xV => ∃ v L, xo = .returned v ∧ own_Q_own_abs Z q1 h0 n0 v xV.heap L ∧ FrameEnd xU xo xV L ({ frames := 0, cells := 0, slots := 0, locals := 0 } : Room).cells ({ frames := 0, cells := 0, slots := 0, locals := 0 } : Room).slots) := by
  refine MetFree.of_bodySF (Jvm.Free.JP.mathPlain rfl (by decide +kernel)) hisR ?_
  intro p e s m args below meth c s₁ Bd hml0 hP hK
  obtain ⟨rfl, hZ, hh⟩ := hP
  have hx := Bd.exec
  have hby := Bd.bytes
  have hlk := Bd.notSynchronized
  have hret := Bd.returns
  have hml : c.maxLocals = 2 := hml0
  have hown : s.vm.findClass "java/lang/Math" = some m.cls := findClass_of_methodNamed Bd.named
  have hnm := (name_of_methodNamed Bd.named Bd.method).1
  have X0 : Stand p l e ({ frames := 0, cells := 0, slots := 0, locals := 0 } : Room) s m #[(.long q1)] below meth c s₁ [] 0 0 := Stand.of_body Bd
  have e0 : s₁.heap = h0 := by rw [← hh, Bd.state]; rfl
  have N0 := Fr.nil n0
  show own_Gl p e below s (own_Q_own_abs Z q1 h0 n0) ({ frames := 0, cells := 0, slots := 0, locals := 0 } : Room).cells ({ frames := 0, cells := 0, slots := 0, locals := 0 } : Room).slots _
  refine own_cast (own_ef_own_abs m q1) ?_
  show own_Gl _ _ _ _ _ _ _ (s₁.setTop (mkF m 0 #[.val (.long q1), .second] []))
  refine own_st (fun _ k => XS.lloadN X0.here hx rfl (hb hby own_d_jdk_29_method_61_code_0) rfl k) ?_
  show own_Gl _ _ _ _ _ _ _ (s₁.setTop (mkF m 1 #[.val (.long q1), .second] [(.long q1)]))
  refine own_st (fun _ k => XS.lconst X0.here hx rfl (hb hby own_d_jdk_29_method_61_code_1) k) ?_
  show own_Gl _ _ _ _ _ _ _ (s₁.setTop (mkF m 2 #[.val (.long q1), .second] [(.long (0 : Int64)), (.long q1)]))
  refine own_st (fun _ k => XS.lcmp X0.here hx rfl (hb hby own_d_jdk_29_method_61_code_2) rfl k) ?_
  show own_Gl _ _ _ _ _ _ _ (s₁.setTop (mkF m 3 #[.val (.long q1), .second] [(.int (lcmpW q1 (0 : Int64)))]))
  by_cases hc3 : q1 < (0 : Int64)
  · refine own_st (fun _ k => XS.ifNo X0.here hx rfl (hb hby own_d_jdk_29_method_61_code_3) rfl ((if0 _ _).trans (tlt ((lw_lt _ _).mpr hc3)).2.1) k) ?_
    show own_Gl _ _ _ _ _ _ _ (s₁.setTop (mkF m 6 #[.val (.long q1), .second] []))
    refine own_st (fun _ k => XS.lloadN X0.here hx rfl (hb hby own_d_jdk_29_method_61_code_6) rfl k) ?_
    show own_Gl _ _ _ _ _ _ _ (s₁.setTop (mkF m 7 #[.val (.long q1), .second] [(.long q1)]))
    refine own_st (fun _ k => XS.lneg X0.here hx rfl (hb hby own_d_jdk_29_method_61_code_7) rfl k) ?_
    show own_Gl _ _ _ _ _ _ _ (s₁.setTop (mkF m 8 #[.val (.long q1), .second] [(.long (-q1))]))
    refine own_st (fun _ k => XS.goto X0.here hx rfl (pc0 := 8) (pc' := 12) rfl (hb hby own_d_jdk_29_method_61_code_8) (by decide) (by decide) k) ?_
    show own_Gl _ _ _ _ _ _ _ (s₁.setTop (mkF m 12 #[.val (.long q1), .second] [(.long (-q1))]))
    exact own_retJ X0 hx hlk hret (hb hby own_d_jdk_29_method_61_code_12) e0 ⟨by rw [if_pos hc3] <;> rfl, N0, rfl⟩ (by decide) (by decide)
  · refine own_st (fun _ k => XS.ifYes X0.here hx rfl (pc0 := 3) (pc' := 11) rfl (hb hby own_d_jdk_29_method_61_code_3) rfl ((if0 _ _).trans (flt (mt (lw_lt _ _).mp hc3)).2.1) (by decide) (by decide) k) ?_
    show own_Gl _ _ _ _ _ _ _ (s₁.setTop (mkF m 11 #[.val (.long q1), .second] []))
    refine own_st (fun _ k => XS.lloadN X0.here hx rfl (hb hby own_d_jdk_29_method_61_code_11) rfl k) ?_
    show own_Gl _ _ _ _ _ _ _ (s₁.setTop (mkF m 12 #[.val (.long q1), .second] [(.long q1)]))
    exact own_retJ X0 hx hlk hret (hb hby own_d_jdk_29_method_61_code_12) e0 ⟨by rw [if_neg hc3] <;> rfl, N0, rfl⟩ (by decide) (by decide)
theorem own_d_prog_32_method_14_code_0 : decode prog_32_method_14_code 0 = .ok (.iconst 1, 1) := by decide +kernel
theorem own_d_prog_32_method_14_code_1 : decode prog_32_method_14_code 1 = .ok (.istore_n 2, 1) := by decide +kernel
theorem own_d_prog_32_method_14_code_2 : decode prog_32_method_14_code 2 = .ok (.ldc2_w 137, 3) := by decide +kernel
theorem own_d_prog_32_method_14_code_5 : decode prog_32_method_14_code 5 = .ok (.lstore_n 3, 1) := by decide +kernel
theorem own_d_prog_32_method_14_code_6 : decode prog_32_method_14_code 6 = .ok (.lload_n 0, 1) := by decide +kernel
theorem own_d_prog_32_method_14_code_7 : decode prog_32_method_14_code 7 = .ok (.lload_n 3, 1) := by decide +kernel
theorem own_d_prog_32_method_14_code_8 : decode prog_32_method_14_code 8 = .ok (.lcmp, 1) := by decide +kernel
theorem own_d_prog_32_method_14_code_9 : decode prog_32_method_14_code 9 = .ok (.ifCond .lt 15, 3) := by decide +kernel
theorem own_d_prog_32_method_14_code_24 : decode prog_32_method_14_code 24 = .ok (.iload_n 2, 1) := by decide +kernel
theorem own_d_prog_32_method_14_code_25 : decode prog_32_method_14_code 25 = .ok (.ireturn, 1) := by decide +kernel
theorem own_d_prog_32_method_14_code_12 : decode prog_32_method_14_code 12 = .ok (.iinc 2 1, 3) := by decide +kernel
theorem own_d_prog_32_method_14_code_15 : decode prog_32_method_14_code 15 = .ok (.lload_n 3, 1) := by decide +kernel
theorem own_d_prog_32_method_14_code_16 : decode prog_32_method_14_code 16 = .ok (.ldc2_w 137, 3) := by decide +kernel
theorem own_d_prog_32_method_14_code_19 : decode prog_32_method_14_code 19 = .ok (.lmul, 1) := by decide +kernel
theorem own_d_prog_32_method_14_code_20 : decode prog_32_method_14_code 20 = .ok (.lstore_n 3, 1) := by decide +kernel
theorem own_d_prog_32_method_14_code_21 : decode prog_32_method_14_code 21 = .ok (.goto (-15), 3) := by decide +kernel
theorem own_ef_own_dig (m : MethodId) (x0 : Int64) : entryFrame m #[(.long x0)] 5 = mkF m 0 #[.val (.long x0), .second, .unset, .unset, .unset] [] := by first | (simp [entryFrame, mkF, argsToLocals, Value.category]; done) | rfl
def own_Q_own_dig (Z : State) (q1 : Int64) (Y : Nat) (h0 : Heap) (n0 : Nat) (v : Option Value) (h : Heap) (L : List Loc) : Prop := ∃ (w : Int32) (dn : Nat), (v = some (.int w)) ∧ (Fr n0 L) ∧ (h = h0) ∧ (w.toInt = (dn : Int) ∧ 1 ≤ dn ∧ dn ≤ 17 ∧ Y < 10 ^ dn ∧ (dn = 1 ∨ 10 ^ (dn - 1) ≤ Y))
theorem own_pn729683044 : plainName "org/benli/core/Money" = true := by first | (simp [plainName, overriddenIn]; done) | decide +kernel
set_option maxRecDepth 65536 in
set_option maxHeartbeats 40000000 in
theorem own_dig (l : Launch) (Z : State) (a0 : Array Value) (hw : ∀ d ∈ tables_1, d.before a0 Z = true) (ws : List Jvm.Cond) (q1 : Int64) (Y : Nat) (h0 : Heap) (n0 : Nat) (Z0 : n0 ≤ h0.size) (hy : q1.toInt = (Y : Int)) (hYb : Y ≤ 92233720368547758) :
    MetFree l (⟨"org/benli/core/Money", "digits", "(J)I"⟩ : MethodName) (head1 (Jvm.Cond.code (⟨"org/benli/core/Money", "digits", "(J)I"⟩ : MethodName) prog_32_method_14_code 5 (some .int) :: ws) ({ frames := 0, cells := 0, slots := 0, locals := 0 } : Room)) (fun xa xU => xa = #[(.long q1)] ∧ Z.Warmed39 xU.vm ∧ xU.heap = h0) (fun _ _ _ _ _ => True) (fun _ xU xo xV => ∃ v L, xo = .returned v ∧ own_Q_own_dig Z q1 Y h0 n0 v xV.heap L ∧ FrameEnd xU xo xV L ({ frames := 0, cells := 0, slots := 0, locals := 0 } : Room).cells ({ frames := 0, cells := 0, slots := 0, locals := 0 } : Room).slots) := by
  refine MetFree.of_bodySF (plainFor_of_name own_pn729683044) hisR ?_
  intro p e s m args below meth c s₁ Bd hml0 hP hK
  obtain ⟨rfl, hZ, hh⟩ := hP
  have hx := Bd.exec
  have hby := Bd.bytes
  have hlk := Bd.notSynchronized
  have hret := Bd.returns
  have hml : c.maxLocals = 5 := hml0
  have hown : s.vm.findClass "org/benli/core/Money" = some m.cls := findClass_of_methodNamed Bd.named
  have hnm := (name_of_methodNamed Bd.named Bd.method).1
  have X0 : Stand p l e ({ frames := 0, cells := 0, slots := 0, locals := 0 } : Room) s m #[(.long q1)] below meth c s₁ [] 0 0 := Stand.of_body Bd
  have e0 : s₁.heap = h0 := by rw [← hh, Bd.state]; rfl
  have N0 := Fr.nil n0
  show own_Gl p e below s (own_Q_own_dig Z q1 Y h0 n0) ({ frames := 0, cells := 0, slots := 0, locals := 0 } : Room).cells ({ frames := 0, cells := 0, slots := 0, locals := 0 } : Room).slots _
  refine own_cast (own_ef_own_dig m q1) ?_
  show own_Gl _ _ _ _ _ _ _ (s₁.setTop (mkF m 0 #[.val (.long q1), .second, .unset, .unset, .unset] []))
  refine own_st (fun _ k => XS.iconst X0.here hx rfl (hb hby own_d_prog_32_method_14_code_0) k) ?_
  show own_Gl _ _ _ _ _ _ _ (s₁.setTop (mkF m 1 #[.val (.long q1), .second, .unset, .unset, .unset] [(.int (1 : Int32))]))
  refine own_st (fun _ k => XS.istoreN X0.here hx rfl (hb hby own_d_prog_32_method_14_code_1) rfl (l' := #[.val (.long q1), .second, .val (.int (1 : Int32)), .unset, .unset]) rfl k) ?_
  show own_Gl _ _ _ _ _ _ _ (s₁.setTop (mkF m 2 #[.val (.long q1), .second, .val (.int (1 : Int32)), .unset, .unset] []))
  refine own_st (X0.ldc2Long hx hown (mvT hZ (hw _ (List.mem_of_getElem? (i := 27) rfl))) (g := (mkF m 2 #[.val (.long q1), .second, .val (.int (1 : Int32)), .unset, .unset] [])) rfl (hb hby own_d_prog_32_method_14_code_2)) ?_
  show own_Gl _ _ _ _ _ _ _ (s₁.setTop (mkF m 5 #[.val (.long q1), .second, .val (.int (1 : Int32)), .unset, .unset] [(.long (10 : Int64))]))
  refine own_st (fun _ k => XS.lstoreN X0.here hx rfl (hb hby own_d_prog_32_method_14_code_5) rfl (l' := #[.val (.long q1), .second, .val (.int (1 : Int32)), .val (.long (10 : Int64)), .second]) rfl k) ?_
  show own_Gl _ _ _ _ _ _ _ (s₁.setTop (mkF m 6 #[.val (.long q1), .second, .val (.int (1 : Int32)), .val (.long (10 : Int64)), .second] []))
  have J6_1 : ∀ (k1 : Nat) (T1 : State) (LL1 : List Loc) (N1 : Fr n0 LL1) (X1 : Stand p l e ({ frames := 0, cells := 0, slots := 0, locals := 0 } : Room) s m #[(.long q1)] below meth c T1 LL1 0 0) (e1 : T1.heap = h0) (ct : Int32) (lim : Int64) (dd : Nat) (hct : ct.toInt = (dd : Int)) (hlim : lim.toInt = ((10 ^ dd : Nat) : Int)) (hdd : 1 ≤ dd ∧ dd ≤ 17) (hbb : dd = 1 ∨ 10 ^ (dd - 1) ≤ Y) (hk1 : 17 - dd = k1), own_Gl p e below s (own_Q_own_dig Z q1 Y h0 n0) ({ frames := 0, cells := 0, slots := 0, locals := 0 } : Room).cells ({ frames := 0, cells := 0, slots := 0, locals := 0 } : Room).slots (T1.setTop (mkF m 6 #[.val (.long q1), .second, .val (.int ct), .val (.long lim), .second] [])) := by
    intro k1
    induction k1 using Nat.strongRecOn with
    | _ k1 ih1 =>
      intro T1 LL1 N1 X1 e1 ct lim dd hct hlim hdd hbb hk1
      show own_Gl _ _ _ _ _ _ _ (T1.setTop (mkF m 6 #[.val (.long q1), .second, .val (.int ct), .val (.long lim), .second] []))
      refine own_st (fun _ k => XS.lloadN X1.here hx rfl (hb hby own_d_prog_32_method_14_code_6) rfl k) ?_
      show own_Gl _ _ _ _ _ _ _ (T1.setTop (mkF m 7 #[.val (.long q1), .second, .val (.int ct), .val (.long lim), .second] [(.long q1)]))
      refine own_st (fun _ k => XS.lloadN X1.here hx rfl (hb hby own_d_prog_32_method_14_code_7) rfl k) ?_
      show own_Gl _ _ _ _ _ _ _ (T1.setTop (mkF m 8 #[.val (.long q1), .second, .val (.int ct), .val (.long lim), .second] [(.long lim), (.long q1)]))
      refine own_st (fun _ k => XS.lcmp X1.here hx rfl (hb hby own_d_prog_32_method_14_code_8) rfl k) ?_
      show own_Gl _ _ _ _ _ _ _ (T1.setTop (mkF m 9 #[.val (.long q1), .second, .val (.int ct), .val (.long lim), .second] [(.int (lcmpW q1 lim))]))
      by_cases hc9 : q1 < lim
      · refine own_st (fun _ k => XS.ifYes X1.here hx rfl (pc0 := 9) (pc' := 24) rfl (hb hby own_d_prog_32_method_14_code_9) rfl ((if0 _ _).trans (tlt ((lw_lt _ _).mpr hc9)).1) (by decide) (by decide) k) ?_
        show own_Gl _ _ _ _ _ _ _ (T1.setTop (mkF m 24 #[.val (.long q1), .second, .val (.int ct), .val (.long lim), .second] []))
        refine own_st (fun _ k => XS.iloadN X1.here hx rfl (hb hby own_d_prog_32_method_14_code_24) rfl k) ?_
        show own_Gl _ _ _ _ _ _ _ (T1.setTop (mkF m 25 #[.val (.long q1), .second, .val (.int ct), .val (.long lim), .second] [(.int ct)]))
        exact own_retI X1 hx hlk hret (hb hby own_d_prog_32_method_14_code_25) e1 ⟨_, dd, rfl, N1, rfl, hct, hdd.1, hdd.2, (own_ltJ hy hlim).mp hc9, hbb⟩ (by decide) (by decide)
      · have hge : 10 ^ dd ≤ Y := Nat.le_of_not_lt fun z => hc9 ((own_ltJ hy hlim).mpr z)
        have hlt : dd < 17 := own_p17 hYb hdd.2 hge
        refine own_st (fun _ k => XS.ifNo X1.here hx rfl (hb hby own_d_prog_32_method_14_code_9) rfl ((if0 _ _).trans (flt (mt (lw_lt _ _).mp hc9)).1) k) ?_
        show own_Gl _ _ _ _ _ _ _ (T1.setTop (mkF m 12 #[.val (.long q1), .second, .val (.int ct), .val (.long lim), .second] []))
        refine own_st (fun _ k => XS.iinc X1.here hx rfl (hb hby own_d_prog_32_method_14_code_12) rfl (l' := #[.val (.long q1), .second, .val (.int (ct + (1 : Int32))), .val (.long lim), .second]) rfl k) ?_
        show own_Gl _ _ _ _ _ _ _ (T1.setTop (mkF m 15 #[.val (.long q1), .second, .val (.int (ct + (1 : Int32))), .val (.long lim), .second] []))
        refine own_st (fun _ k => XS.lloadN X1.here hx rfl (hb hby own_d_prog_32_method_14_code_15) rfl k) ?_
        show own_Gl _ _ _ _ _ _ _ (T1.setTop (mkF m 16 #[.val (.long q1), .second, .val (.int (ct + (1 : Int32))), .val (.long lim), .second] [(.long lim)]))
        refine own_st (X1.ldc2Long hx hown (mvT hZ (hw _ (List.mem_of_getElem? (i := 27) rfl))) (g := (mkF m 16 #[.val (.long q1), .second, .val (.int (ct + (1 : Int32))), .val (.long lim), .second] [(.long lim)])) rfl (hb hby own_d_prog_32_method_14_code_16)) ?_
        show own_Gl _ _ _ _ _ _ _ (T1.setTop (mkF m 19 #[.val (.long q1), .second, .val (.int (ct + (1 : Int32))), .val (.long lim), .second] [(.long (10 : Int64)), (.long lim)]))
        refine own_st (fun _ k => XS.lmul X1.here hx rfl (hb hby own_d_prog_32_method_14_code_19) rfl k) ?_
        show own_Gl _ _ _ _ _ _ _ (T1.setTop (mkF m 20 #[.val (.long q1), .second, .val (.int (ct + (1 : Int32))), .val (.long lim), .second] [(.long (lim * (10 : Int64)))]))
        refine own_st (fun _ k => XS.lstoreN X1.here hx rfl (hb hby own_d_prog_32_method_14_code_20) rfl (l' := #[.val (.long q1), .second, .val (.int (ct + (1 : Int32))), .val (.long (lim * (10 : Int64))), .second]) rfl k) ?_
        show own_Gl _ _ _ _ _ _ _ (T1.setTop (mkF m 21 #[.val (.long q1), .second, .val (.int (ct + (1 : Int32))), .val (.long (lim * (10 : Int64))), .second] []))
        refine own_st (fun _ k => XS.goto X1.here hx rfl (pc0 := 21) (pc' := 6) rfl (hb hby own_d_prog_32_method_14_code_21) (by decide) (by decide) k) ?_
        show own_Gl _ _ _ _ _ _ _ (T1.setTop (mkF m 6 #[.val (.long q1), .second, .val (.int (ct + (1 : Int32))), .val (.long (lim * (10 : Int64))), .second] []))
        show own_Gl _ _ _ _ _ _ _ (T1.setTop (mkF m 6 #[.val (.long q1), .second, .val (.int (ct + (1 : Int32))), .val (.long (lim * (10 : Int64))), .second] []))
        exact ih1 _ (by omega) T1 _ N1 X1 e1 ((ct + (1 : Int32))) ((lim * (10 : Int64))) ((dd + 1)) (own_c1 _ hct hlt) (own_lim _ hlim hlt) ⟨by omega, by omega⟩ (Or.inr (by show 10 ^ dd ≤ Y; exact hge)) rfl
  show own_Gl _ _ _ _ _ _ _ (s₁.setTop (mkF m 6 #[.val (.long q1), .second, .val (.int (1 : Int32)), .val (.long (10 : Int64)), .second] []))
  exact J6_1 _ s₁ _ N0 X0 e0 ((1 : Int32)) ((10 : Int64)) (1) (by decide) (by decide) (by decide) (Or.inl rfl) rfl
theorem own_d_prog_32_method_13_code_12 : decode prog_32_method_13_code 12 = .ok (.lstore 4, 2) := by decide +kernel
theorem own_d_prog_32_method_13_code_14 : decode prog_32_method_13_code 14 = .ok (.lload 4, 2) := by decide +kernel
theorem own_d_prog_32_method_13_code_16 : decode prog_32_method_13_code 16 = .ok (.ldc2_w 118, 3) := by decide +kernel
theorem own_d_prog_32_method_13_code_19 : decode prog_32_method_13_code 19 = .ok (.ldiv, 1) := by decide +kernel
theorem own_d_prog_32_method_13_code_20 : decode prog_32_method_13_code 20 = .ok (.lneg, 1) := by decide +kernel
theorem own_d_prog_32_method_13_code_21 : decode prog_32_method_13_code 21 = .ok (.lstore 6, 2) := by decide +kernel
theorem own_d_prog_32_method_13_code_23 : decode prog_32_method_13_code 23 = .ok (.lload 4, 2) := by decide +kernel
theorem own_d_prog_32_method_13_code_25 : decode prog_32_method_13_code 25 = .ok (.ldc2_w 118, 3) := by decide +kernel
theorem own_d_prog_32_method_13_code_28 : decode prog_32_method_13_code 28 = .ok (.lrem, 1) := by decide +kernel
theorem own_d_prog_32_method_13_code_29 : decode prog_32_method_13_code 29 = .ok (.lneg, 1) := by decide +kernel
theorem own_d_prog_32_method_13_code_30 : decode prog_32_method_13_code 30 = .ok (.l2i, 1) := by decide +kernel
theorem own_d_prog_32_method_13_code_31 : decode prog_32_method_13_code 31 = .ok (.istore 8, 2) := by decide +kernel
theorem own_d_prog_32_method_13_code_45 : decode prog_32_method_13_code 45 = .ok (.iadd, 1) := by decide +kernel
theorem own_d_prog_32_method_13_code_46 : decode prog_32_method_13_code 46 = .ok (.lload 6, 2) := by decide +kernel
theorem own_d_prog_32_method_13_code_48 : decode prog_32_method_13_code 48 = .ok (.invokestatic 120, 3) := by decide +kernel
theorem own_pd91198998 : parseMethodDescriptor "(J)I" = some ⟨[.long], some .int⟩ := by decide +kernel
theorem own_d_prog_32_method_13_code_51 : decode prog_32_method_13_code 51 = .ok (.iadd, 1) := by decide +kernel
theorem own_d_prog_32_method_13_code_52 : decode prog_32_method_13_code 52 = .ok (.iconst 1, 1) := by decide +kernel
theorem own_d_prog_32_method_13_code_53 : decode prog_32_method_13_code 53 = .ok (.iadd, 1) := by decide +kernel
theorem own_d_prog_32_method_13_code_54 : decode prog_32_method_13_code 54 = .ok (.iconst 2, 1) := by decide +kernel
theorem own_d_prog_32_method_13_code_55 : decode prog_32_method_13_code 55 = .ok (.iadd, 1) := by decide +kernel
theorem own_d_prog_32_method_13_code_56 : decode prog_32_method_13_code 56 = .ok (.istore 9, 2) := by decide +kernel
theorem own_d_prog_32_method_13_code_58 : decode prog_32_method_13_code 58 = .ok (.aload_n 2, 1) := by decide +kernel
theorem own_d_prog_32_method_13_code_59 : decode prog_32_method_13_code 59 = .ok (.iload 9, 2) := by decide +kernel
theorem own_d_prog_32_method_13_code_61 : decode prog_32_method_13_code 61 = .ok (.iconst 1, 1) := by decide +kernel
theorem own_d_prog_32_method_13_code_62 : decode prog_32_method_13_code 62 = .ok (.isub, 1) := by decide +kernel
theorem own_d_prog_32_method_13_code_63 : decode prog_32_method_13_code 63 = .ok (.getstatic 124, 3) := by decide +kernel
theorem own_d_prog_32_method_13_code_66 : decode prog_32_method_13_code 66 = .ok (.iload 8, 2) := by decide +kernel
theorem own_d_prog_32_method_13_code_68 : decode prog_32_method_13_code 68 = .ok (.caload, 1) := by decide +kernel
theorem own_d_prog_32_method_13_code_69 : decode prog_32_method_13_code 69 = .ok (.castore, 1) := by decide +kernel
theorem own_d_prog_32_method_13_code_70 : decode prog_32_method_13_code 70 = .ok (.aload_n 2, 1) := by decide +kernel
theorem own_d_prog_32_method_13_code_71 : decode prog_32_method_13_code 71 = .ok (.iload 9, 2) := by decide +kernel
theorem own_d_prog_32_method_13_code_73 : decode prog_32_method_13_code 73 = .ok (.iconst 2, 1) := by decide +kernel
theorem own_d_prog_32_method_13_code_74 : decode prog_32_method_13_code 74 = .ok (.isub, 1) := by decide +kernel
theorem own_d_prog_32_method_13_code_75 : decode prog_32_method_13_code 75 = .ok (.getstatic 128, 3) := by decide +kernel
theorem own_d_prog_32_method_13_code_78 : decode prog_32_method_13_code 78 = .ok (.iload 8, 2) := by decide +kernel
theorem own_d_prog_32_method_13_code_80 : decode prog_32_method_13_code 80 = .ok (.caload, 1) := by decide +kernel
theorem own_d_prog_32_method_13_code_81 : decode prog_32_method_13_code 81 = .ok (.castore, 1) := by decide +kernel
theorem own_d_prog_32_method_13_code_82 : decode prog_32_method_13_code 82 = .ok (.aload_n 2, 1) := by decide +kernel
theorem own_d_prog_32_method_13_code_83 : decode prog_32_method_13_code 83 = .ok (.iload 9, 2) := by decide +kernel
theorem own_d_prog_32_method_13_code_85 : decode prog_32_method_13_code 85 = .ok (.iconst 3, 1) := by decide +kernel
theorem own_d_prog_32_method_13_code_86 : decode prog_32_method_13_code 86 = .ok (.isub, 1) := by decide +kernel
theorem own_d_prog_32_method_13_code_87 : decode prog_32_method_13_code 87 = .ok (.bipush 46, 2) := by decide +kernel
theorem own_d_prog_32_method_13_code_89 : decode prog_32_method_13_code 89 = .ok (.castore, 1) := by decide +kernel
theorem own_d_prog_32_method_13_code_90 : decode prog_32_method_13_code 90 = .ok (.iload 9, 2) := by decide +kernel
theorem own_d_prog_32_method_13_code_92 : decode prog_32_method_13_code 92 = .ok (.iconst 3, 1) := by decide +kernel
theorem own_d_prog_32_method_13_code_93 : decode prog_32_method_13_code 93 = .ok (.isub, 1) := by decide +kernel
theorem own_d_prog_32_method_13_code_94 : decode prog_32_method_13_code 94 = .ok (.istore 10, 2) := by decide +kernel
theorem own_d_prog_32_method_13_code_96 : decode prog_32_method_13_code 96 = .ok (.lload 6, 2) := by decide +kernel
theorem own_d_prog_32_method_13_code_98 : decode prog_32_method_13_code 98 = .ok (.ldc2_w 133, 3) := by decide +kernel
theorem own_d_prog_32_method_13_code_101 : decode prog_32_method_13_code 101 = .ok (.lcmp, 1) := by decide +kernel
theorem own_d_prog_32_method_13_code_102 : decode prog_32_method_13_code 102 = .ok (.ifCond .le 33, 3) := by decide +kernel
theorem own_d_prog_32_method_13_code_105 : decode prog_32_method_13_code 105 = .ok (.aload_n 2, 1) := by decide +kernel
theorem own_d_prog_32_method_13_code_106 : decode prog_32_method_13_code 106 = .ok (.iinc 10 (-1), 3) := by decide +kernel
theorem own_d_prog_32_method_13_code_109 : decode prog_32_method_13_code 109 = .ok (.iload 10, 2) := by decide +kernel
theorem own_d_prog_32_method_13_code_111 : decode prog_32_method_13_code 111 = .ok (.ldc2_w 135, 3) := by decide +kernel
theorem own_d_prog_32_method_13_code_114 : decode prog_32_method_13_code 114 = .ok (.lload 6, 2) := by decide +kernel
theorem own_d_prog_32_method_13_code_116 : decode prog_32_method_13_code 116 = .ok (.ldc2_w 137, 3) := by decide +kernel
theorem own_d_prog_32_method_13_code_119 : decode prog_32_method_13_code 119 = .ok (.lrem, 1) := by decide +kernel
theorem own_d_prog_32_method_13_code_120 : decode prog_32_method_13_code 120 = .ok (.ladd, 1) := by decide +kernel
theorem own_d_prog_32_method_13_code_121 : decode prog_32_method_13_code 121 = .ok (.l2i, 1) := by decide +kernel
theorem own_d_prog_32_method_13_code_122 : decode prog_32_method_13_code 122 = .ok (.i2c, 1) := by decide +kernel
theorem own_d_prog_32_method_13_code_123 : decode prog_32_method_13_code 123 = .ok (.castore, 1) := by decide +kernel
theorem own_d_prog_32_method_13_code_124 : decode prog_32_method_13_code 124 = .ok (.lload 6, 2) := by decide +kernel
theorem own_d_prog_32_method_13_code_126 : decode prog_32_method_13_code 126 = .ok (.ldc2_w 137, 3) := by decide +kernel
theorem own_d_prog_32_method_13_code_129 : decode prog_32_method_13_code 129 = .ok (.ldiv, 1) := by decide +kernel
theorem own_d_prog_32_method_13_code_130 : decode prog_32_method_13_code 130 = .ok (.lstore 6, 2) := by decide +kernel
theorem own_d_prog_32_method_13_code_132 : decode prog_32_method_13_code 132 = .ok (.goto (-36), 3) := by decide +kernel
theorem own_d_prog_32_method_13_code_135 : decode prog_32_method_13_code 135 = .ok (.lload 6, 2) := by decide +kernel
theorem own_d_prog_32_method_13_code_137 : decode prog_32_method_13_code 137 = .ok (.l2i, 1) := by decide +kernel
theorem own_d_prog_32_method_13_code_138 : decode prog_32_method_13_code 138 = .ok (.istore 11, 2) := by decide +kernel
theorem own_d_prog_32_method_13_code_140 : decode prog_32_method_13_code 140 = .ok (.iload 11, 2) := by decide +kernel
theorem own_d_prog_32_method_13_code_142 : decode prog_32_method_13_code 142 = .ok (.bipush 100, 2) := by decide +kernel
theorem own_d_prog_32_method_13_code_144 : decode prog_32_method_13_code 144 = .ok (.if_icmp .lt 45, 3) := by decide +kernel
theorem own_d_prog_32_method_13_code_189 : decode prog_32_method_13_code 189 = .ok (.aload_n 2, 1) := by decide +kernel
theorem own_d_prog_32_method_13_code_190 : decode prog_32_method_13_code 190 = .ok (.iinc 10 (-1), 3) := by decide +kernel
theorem own_d_prog_32_method_13_code_193 : decode prog_32_method_13_code 193 = .ok (.iload 10, 2) := by decide +kernel
theorem own_d_prog_32_method_13_code_195 : decode prog_32_method_13_code 195 = .ok (.getstatic 124, 3) := by decide +kernel
theorem own_d_prog_32_method_13_code_198 : decode prog_32_method_13_code 198 = .ok (.iload 11, 2) := by decide +kernel
theorem own_d_prog_32_method_13_code_200 : decode prog_32_method_13_code 200 = .ok (.caload, 1) := by decide +kernel
theorem own_d_prog_32_method_13_code_201 : decode prog_32_method_13_code 201 = .ok (.castore, 1) := by decide +kernel
theorem own_d_prog_32_method_13_code_222 : decode prog_32_method_13_code 222 = .ok (.lload_n 0, 1) := by decide +kernel
theorem own_d_prog_32_method_13_code_223 : decode prog_32_method_13_code 223 = .ok (.lconst 0, 1) := by decide +kernel
theorem own_d_prog_32_method_13_code_224 : decode prog_32_method_13_code 224 = .ok (.lcmp, 1) := by decide +kernel
theorem own_d_prog_32_method_13_code_225 : decode prog_32_method_13_code 225 = .ok (.ifCond .ge 12, 3) := by decide +kernel
theorem own_d_prog_32_method_13_code_228 : decode prog_32_method_13_code 228 = .ok (.aload_n 2, 1) := by decide +kernel
theorem own_d_prog_32_method_13_code_229 : decode prog_32_method_13_code 229 = .ok (.iinc 10 (-1), 3) := by decide +kernel
theorem own_d_prog_32_method_13_code_232 : decode prog_32_method_13_code 232 = .ok (.iload 10, 2) := by decide +kernel
theorem own_d_prog_32_method_13_code_234 : decode prog_32_method_13_code 234 = .ok (.bipush 45, 2) := by decide +kernel
theorem own_d_prog_32_method_13_code_236 : decode prog_32_method_13_code 236 = .ok (.castore, 1) := by decide +kernel
theorem own_d_prog_32_method_13_code_237 : decode prog_32_method_13_code 237 = .ok (.iload 9, 2) := by decide +kernel
theorem own_d_prog_32_method_13_code_239 : decode prog_32_method_13_code 239 = .ok (.iload_n 3, 1) := by decide +kernel
theorem own_d_prog_32_method_13_code_240 : decode prog_32_method_13_code 240 = .ok (.isub, 1) := by decide +kernel
theorem own_d_prog_32_method_13_code_241 : decode prog_32_method_13_code 241 = .ok (.ireturn, 1) := by decide +kernel
theorem own_d_prog_32_method_13_code_202 : decode prog_32_method_13_code 202 = .ok (.iload 11, 2) := by decide +kernel
theorem own_d_prog_32_method_13_code_204 : decode prog_32_method_13_code 204 = .ok (.bipush 10, 2) := by decide +kernel
theorem own_d_prog_32_method_13_code_206 : decode prog_32_method_13_code 206 = .ok (.if_icmp .lt 16, 3) := by decide +kernel
theorem own_d_prog_32_method_13_code_209 : decode prog_32_method_13_code 209 = .ok (.aload_n 2, 1) := by decide +kernel
theorem own_d_prog_32_method_13_code_210 : decode prog_32_method_13_code 210 = .ok (.iinc 10 (-1), 3) := by decide +kernel
theorem own_d_prog_32_method_13_code_213 : decode prog_32_method_13_code 213 = .ok (.iload 10, 2) := by decide +kernel
theorem own_d_prog_32_method_13_code_215 : decode prog_32_method_13_code 215 = .ok (.getstatic 128, 3) := by decide +kernel
theorem own_d_prog_32_method_13_code_218 : decode prog_32_method_13_code 218 = .ok (.iload 11, 2) := by decide +kernel
theorem own_d_prog_32_method_13_code_220 : decode prog_32_method_13_code 220 = .ok (.caload, 1) := by decide +kernel
theorem own_d_prog_32_method_13_code_221 : decode prog_32_method_13_code 221 = .ok (.castore, 1) := by decide +kernel
theorem own_d_prog_32_method_13_code_147 : decode prog_32_method_13_code 147 = .ok (.aload_n 2, 1) := by decide +kernel
theorem own_d_prog_32_method_13_code_148 : decode prog_32_method_13_code 148 = .ok (.iinc 10 (-1), 3) := by decide +kernel
theorem own_d_prog_32_method_13_code_151 : decode prog_32_method_13_code 151 = .ok (.iload 10, 2) := by decide +kernel
theorem own_d_prog_32_method_13_code_153 : decode prog_32_method_13_code 153 = .ok (.getstatic 124, 3) := by decide +kernel
theorem own_d_prog_32_method_13_code_156 : decode prog_32_method_13_code 156 = .ok (.iload 11, 2) := by decide +kernel
theorem own_d_prog_32_method_13_code_158 : decode prog_32_method_13_code 158 = .ok (.bipush 100, 2) := by decide +kernel
theorem own_d_prog_32_method_13_code_160 : decode prog_32_method_13_code 160 = .ok (.irem, 1) := by decide +kernel
theorem own_d_prog_32_method_13_code_161 : decode prog_32_method_13_code 161 = .ok (.caload, 1) := by decide +kernel
theorem own_d_prog_32_method_13_code_162 : decode prog_32_method_13_code 162 = .ok (.castore, 1) := by decide +kernel
theorem own_d_prog_32_method_13_code_163 : decode prog_32_method_13_code 163 = .ok (.aload_n 2, 1) := by decide +kernel
theorem own_d_prog_32_method_13_code_164 : decode prog_32_method_13_code 164 = .ok (.iinc 10 (-1), 3) := by decide +kernel
theorem own_d_prog_32_method_13_code_167 : decode prog_32_method_13_code 167 = .ok (.iload 10, 2) := by decide +kernel
theorem own_d_prog_32_method_13_code_169 : decode prog_32_method_13_code 169 = .ok (.getstatic 128, 3) := by decide +kernel
theorem own_d_prog_32_method_13_code_172 : decode prog_32_method_13_code 172 = .ok (.iload 11, 2) := by decide +kernel
theorem own_d_prog_32_method_13_code_174 : decode prog_32_method_13_code 174 = .ok (.bipush 100, 2) := by decide +kernel
theorem own_d_prog_32_method_13_code_176 : decode prog_32_method_13_code 176 = .ok (.irem, 1) := by decide +kernel
theorem own_d_prog_32_method_13_code_177 : decode prog_32_method_13_code 177 = .ok (.caload, 1) := by decide +kernel
theorem own_d_prog_32_method_13_code_178 : decode prog_32_method_13_code 178 = .ok (.castore, 1) := by decide +kernel
theorem own_d_prog_32_method_13_code_179 : decode prog_32_method_13_code 179 = .ok (.iload 11, 2) := by decide +kernel
theorem own_d_prog_32_method_13_code_181 : decode prog_32_method_13_code 181 = .ok (.bipush 100, 2) := by decide +kernel
theorem own_d_prog_32_method_13_code_183 : decode prog_32_method_13_code 183 = .ok (.idiv, 1) := by decide +kernel
theorem own_d_prog_32_method_13_code_184 : decode prog_32_method_13_code 184 = .ok (.istore 11, 2) := by decide +kernel
theorem own_d_prog_32_method_13_code_186 : decode prog_32_method_13_code 186 = .ok (.goto (-46), 3) := by decide +kernel
theorem own_d_prog_32_method_13_code_33 : decode prog_32_method_13_code 33 = .ok (.iload_n 3, 1) := by decide +kernel
theorem own_d_prog_32_method_13_code_34 : decode prog_32_method_13_code 34 = .ok (.lload_n 0, 1) := by decide +kernel
theorem own_d_prog_32_method_13_code_35 : decode prog_32_method_13_code 35 = .ok (.lconst 0, 1) := by decide +kernel
theorem own_d_prog_32_method_13_code_36 : decode prog_32_method_13_code 36 = .ok (.lcmp, 1) := by decide +kernel
theorem own_d_prog_32_method_13_code_37 : decode prog_32_method_13_code 37 = .ok (.ifCond .ge 7, 3) := by decide +kernel
theorem own_d_prog_32_method_13_code_40 : decode prog_32_method_13_code 40 = .ok (.iconst 1, 1) := by decide +kernel
theorem own_d_prog_32_method_13_code_41 : decode prog_32_method_13_code 41 = .ok (.goto 4, 3) := by decide +kernel
theorem own_d_prog_32_method_13_code_44 : decode prog_32_method_13_code 44 = .ok (.iconst 0, 1) := by decide +kernel
theorem own_d_prog_32_method_13_code_0 : decode prog_32_method_13_code 0 = .ok (.lload_n 0, 1) := by decide +kernel
theorem own_d_prog_32_method_13_code_1 : decode prog_32_method_13_code 1 = .ok (.lconst 0, 1) := by decide +kernel
theorem own_d_prog_32_method_13_code_2 : decode prog_32_method_13_code 2 = .ok (.lcmp, 1) := by decide +kernel
theorem own_d_prog_32_method_13_code_3 : decode prog_32_method_13_code 3 = .ok (.ifCond .ge 7, 3) := by decide +kernel
theorem own_d_prog_32_method_13_code_6 : decode prog_32_method_13_code 6 = .ok (.lload_n 0, 1) := by decide +kernel
theorem own_d_prog_32_method_13_code_7 : decode prog_32_method_13_code 7 = .ok (.goto 5, 3) := by decide +kernel
theorem own_d_prog_32_method_13_code_10 : decode prog_32_method_13_code 10 = .ok (.lload_n 0, 1) := by decide +kernel
theorem own_d_prog_32_method_13_code_11 : decode prog_32_method_13_code 11 = .ok (.lneg, 1) := by decide +kernel
theorem own_ef_own_tc (m : MethodId) (x0 : Int64) (x1 : Addr) (x2 : Int32) : entryFrame m #[(.long x0), (.ref x1), (.int x2)] 12 = mkF m 0 #[.val (.long x0), .second, .val (.ref x1), .val (.int x2), .unset, .unset, .unset, .unset, .unset, .unset, .unset, .unset] [] := by first | (simp [entryFrame, mkF, argsToLocals, Value.category]; done) | rfl
def own_Q_own_tc (Z : State) (q1 : Int64) (a : Addr) (pl : Int32) (k : ClassId) (oa : Addr) (ta : Addr) (ko : ClassId) (kt : ClassId) (Y : Nat) (C : Nat) (N : Nat) (la : Nat) (h0 : Heap) (n0 : Nat) (v : Option Value) (h : Heap) (L : List Loc) : Prop := ∃ (w : Int32) (g : Nat → Int32) (dn : Nat), (v = some (.int w)) ∧ (Fr n0 L) ∧ (Keep h0 h [a]) ∧ (Arv Z h a k .char (26 : Int32) (own_fl 26 g) (.int (0 : Int32))) ∧ (w.toInt = ((N + dn + 3 : Nat) : Int)) ∧ (1 ≤ dn ∧ dn ≤ 17 ∧ Y < 10 ^ dn ∧ (dn = 1 ∨ 10 ^ (dn - 1) ≤ Y)) ∧ (∀ i, i < 26 → (g i).toInt = own_fs Y C la N dn i)
set_option maxRecDepth 65536 in
set_option maxHeartbeats 40000000 in
theorem own_tc (l : Launch) (Z : State) (a0 : Array Value) (hw : ∀ d ∈ tables_1, d.before a0 Z = true) (ws : List Jvm.Cond) (q1 : Int64) (a : Addr) (pl : Int32) (k : ClassId) (oa : Addr) (ta : Addr) (ko : ClassId) (kt : ClassId) (Y : Nat) (C : Nat) (N : Nat) (la : Nat) (h0 : Heap) (n0 : Nat) (Z0 : n0 ≤ h0.size) (V_a : Arv Z h0 a k .char (26 : Int32) (own_fl 26 (fun _ => (0 : Int32))) (.int (0 : Int32))) (V_oa : Arv Z h0 oa ko .char (100 : Int32) (own_fl 100 own_ones) (.int (0 : Int32))) (V_ta : Arv Z h0 ta kt .char (100 : Int32) (own_fl 100 own_tens) (.int (0 : Int32))) (Old0 : Old Z n0 h0) (S_ONES : Sta Z Z.heap "org/benli/core/Money" "ONES" "[C" (.ref oa)) (S_TENS : Sta Z Z.heap "org/benli/core/Money" "TENS" "[C" (.ref ta)) (g_a : n0 ≤ a) (ne_a_oa : a ≠ oa) (ne_a_ta : a ≠ ta) (hA : q1.toInt.natAbs = 100 * Y + C) (hC : C < 100) (hN : (q1 < (0 : Int64) → N = 1) ∧ (¬ q1 < (0 : Int64) → N = 0)) (hla : pl.toInt = (la : Int) ∧ la ≤ 3) :
    MetFree l (⟨"org/benli/core/Money", "toChars", "(J[CI)I"⟩ : MethodName) (head1 (Jvm.Cond.code (⟨"org/benli/core/Money", "toChars", "(J[CI)I"⟩ : MethodName) prog_32_method_13_code 12 (some .int) :: ws) ({ frames := 1, cells := 0, slots := 0, locals := 17 } : Room)) (fun xa xU => xa = #[(.long q1), (.ref a), (.int pl)] ∧ Z.Warmed39 xU.vm ∧ xU.heap = h0) (fun _ _ _ _ _ => True) (fun _ xU xo xV => ∃ v L, xo = .returned v ∧ own_Q_own_tc Z q1 a pl k oa ta ko kt Y C N la h0 n0 v xV.heap L ∧ FrameEnd xU xo xV L ({ frames := 1, cells := 0, slots := 0, locals := 17 } : Room).cells ({ frames := 1, cells := 0, slots := 0, locals := 17 } : Room).slots) := by
  refine MetFree.of_bodySF (plainFor_of_name own_pn729683044) hisR ?_
  intro p e s m args below meth c s₁ Bd hml0 hP hK
  obtain ⟨rfl, hZ, hh⟩ := hP
  have hx := Bd.exec
  have hby := Bd.bytes
  have hlk := Bd.notSynchronized
  have hret := Bd.returns
  have hml : c.maxLocals = 12 := hml0
  have hown : s.vm.findClass "org/benli/core/Money" = some m.cls := findClass_of_methodNamed Bd.named
  have hnm := (name_of_methodNamed Bd.named Bd.method).1
  have X0 : Stand p l e ({ frames := 1, cells := 0, slots := 0, locals := 17 } : Room) s m #[(.long q1), (.ref a), (.int pl)] below meth c s₁ [] 0 0 := Stand.of_body Bd
  have e0 : s₁.heap = h0 := by rw [← hh, Bd.state]; rfl
  have N0 := Fr.nil n0
  show own_Gl p e below s (own_Q_own_tc Z q1 a pl k oa ta ko kt Y C N la h0 n0) ({ frames := 1, cells := 0, slots := 0, locals := 17 } : Room).cells ({ frames := 1, cells := 0, slots := 0, locals := 17 } : Room).slots _
  refine own_cast (own_ef_own_tc m q1 a pl) ?_
  show own_Gl _ _ _ _ _ _ _ (s₁.setTop (mkF m 0 #[.val (.long q1), .second, .val (.ref a), .val (.int pl), .unset, .unset, .unset, .unset, .unset, .unset, .unset, .unset] []))
  have J12_1 : ∀ (T1 : State) (LL1 : List Loc) (N1 : Fr n0 LL1) (X1 : Stand p l e ({ frames := 1, cells := 0, slots := 0, locals := 17 } : Room) s m #[(.long q1), (.ref a), (.int pl)] below meth c T1 LL1 0 0) (e1 : T1.heap = h0) (mm : Int64) (hm : mm.toInt = -((100 * Y + C : Nat) : Int)), own_Gl p e below s (own_Q_own_tc Z q1 a pl k oa ta ko kt Y C N la h0 n0) ({ frames := 1, cells := 0, slots := 0, locals := 17 } : Room).cells ({ frames := 1, cells := 0, slots := 0, locals := 17 } : Room).slots (T1.setTop (mkF m 12 #[.val (.long q1), .second, .val (.ref a), .val (.int pl), .unset, .unset, .unset, .unset, .unset, .unset, .unset, .unset] [(.long mm)])) := by
    intro T1 LL1 N1 X1 e1 mm hm
    show own_Gl _ _ _ _ _ _ _ (T1.setTop (mkF m 12 #[.val (.long q1), .second, .val (.ref a), .val (.int pl), .unset, .unset, .unset, .unset, .unset, .unset, .unset, .unset] [(.long mm)]))
    refine own_st (fun _ k => XS.lstore X1.here hx rfl (hb hby own_d_prog_32_method_13_code_12) rfl (l' := #[.val (.long q1), .second, .val (.ref a), .val (.int pl), .val (.long mm), .second, .unset, .unset, .unset, .unset, .unset, .unset]) rfl k) ?_
    show own_Gl _ _ _ _ _ _ _ (T1.setTop (mkF m 14 #[.val (.long q1), .second, .val (.ref a), .val (.int pl), .val (.long mm), .second, .unset, .unset, .unset, .unset, .unset, .unset] []))
    refine own_st (fun _ k => XS.lload X1.here hx rfl (hb hby own_d_prog_32_method_13_code_14) rfl k) ?_
    show own_Gl _ _ _ _ _ _ _ (T1.setTop (mkF m 16 #[.val (.long q1), .second, .val (.ref a), .val (.int pl), .val (.long mm), .second, .unset, .unset, .unset, .unset, .unset, .unset] [(.long mm)]))
    refine own_st (X1.ldc2Long hx hown (mvT hZ (hw _ (List.mem_of_getElem? (i := 23) rfl))) (g := (mkF m 16 #[.val (.long q1), .second, .val (.ref a), .val (.int pl), .val (.long mm), .second, .unset, .unset, .unset, .unset, .unset, .unset] [(.long mm)])) rfl (hb hby own_d_prog_32_method_13_code_16)) ?_
    show own_Gl _ _ _ _ _ _ _ (T1.setTop (mkF m 19 #[.val (.long q1), .second, .val (.ref a), .val (.int pl), .val (.long mm), .second, .unset, .unset, .unset, .unset, .unset, .unset] [(.long (100 : Int64)), (.long mm)]))
    refine own_st (fun _ k => XS.ldiv X1.here hx rfl (hb hby own_d_prog_32_method_13_code_19) rfl (by decide) k) ?_
    show own_Gl _ _ _ _ _ _ _ (T1.setTop (mkF m 20 #[.val (.long q1), .second, .val (.ref a), .val (.int pl), .val (.long mm), .second, .unset, .unset, .unset, .unset, .unset, .unset] [(.long (mm / (100 : Int64)))]))
    refine own_st (fun _ k => XS.lneg X1.here hx rfl (hb hby own_d_prog_32_method_13_code_20) rfl k) ?_
    show own_Gl _ _ _ _ _ _ _ (T1.setTop (mkF m 21 #[.val (.long q1), .second, .val (.ref a), .val (.int pl), .val (.long mm), .second, .unset, .unset, .unset, .unset, .unset, .unset] [(.long (-(mm / (100 : Int64))))]))
    refine own_st (fun _ k => XS.lstore X1.here hx rfl (hb hby own_d_prog_32_method_13_code_21) rfl (l' := #[.val (.long q1), .second, .val (.ref a), .val (.int pl), .val (.long mm), .second, .val (.long (-(mm / (100 : Int64)))), .second, .unset, .unset, .unset, .unset]) rfl k) ?_
    show own_Gl _ _ _ _ _ _ _ (T1.setTop (mkF m 23 #[.val (.long q1), .second, .val (.ref a), .val (.int pl), .val (.long mm), .second, .val (.long (-(mm / (100 : Int64)))), .second, .unset, .unset, .unset, .unset] []))
    refine own_st (fun _ k => XS.lload X1.here hx rfl (hb hby own_d_prog_32_method_13_code_23) rfl k) ?_
    show own_Gl _ _ _ _ _ _ _ (T1.setTop (mkF m 25 #[.val (.long q1), .second, .val (.ref a), .val (.int pl), .val (.long mm), .second, .val (.long (-(mm / (100 : Int64)))), .second, .unset, .unset, .unset, .unset] [(.long mm)]))
    refine own_st (X1.ldc2Long hx hown (mvT hZ (hw _ (List.mem_of_getElem? (i := 23) rfl))) (g := (mkF m 25 #[.val (.long q1), .second, .val (.ref a), .val (.int pl), .val (.long mm), .second, .val (.long (-(mm / (100 : Int64)))), .second, .unset, .unset, .unset, .unset] [(.long mm)])) rfl (hb hby own_d_prog_32_method_13_code_25)) ?_
    show own_Gl _ _ _ _ _ _ _ (T1.setTop (mkF m 28 #[.val (.long q1), .second, .val (.ref a), .val (.int pl), .val (.long mm), .second, .val (.long (-(mm / (100 : Int64)))), .second, .unset, .unset, .unset, .unset] [(.long (100 : Int64)), (.long mm)]))
    refine own_st (fun _ k => XS.lrem X1.here hx rfl (hb hby own_d_prog_32_method_13_code_28) rfl (by decide) k) ?_
    show own_Gl _ _ _ _ _ _ _ (T1.setTop (mkF m 29 #[.val (.long q1), .second, .val (.ref a), .val (.int pl), .val (.long mm), .second, .val (.long (-(mm / (100 : Int64)))), .second, .unset, .unset, .unset, .unset] [(.long (mm - (mm / (100 : Int64)) * (100 : Int64)))]))
    refine own_st (fun _ k => XS.lneg X1.here hx rfl (hb hby own_d_prog_32_method_13_code_29) rfl k) ?_
    show own_Gl _ _ _ _ _ _ _ (T1.setTop (mkF m 30 #[.val (.long q1), .second, .val (.ref a), .val (.int pl), .val (.long mm), .second, .val (.long (-(mm / (100 : Int64)))), .second, .unset, .unset, .unset, .unset] [(.long (-(mm - (mm / (100 : Int64)) * (100 : Int64))))]))
    refine own_st (fun _ k => XS.l2i X1.here hx rfl (hb hby own_d_prog_32_method_13_code_30) rfl k) ?_
    show own_Gl _ _ _ _ _ _ _ (T1.setTop (mkF m 31 #[.val (.long q1), .second, .val (.ref a), .val (.int pl), .val (.long mm), .second, .val (.long (-(mm / (100 : Int64)))), .second, .unset, .unset, .unset, .unset] [(.int ((-(mm - (mm / (100 : Int64)) * (100 : Int64))).toInt32))]))
    refine own_st (fun _ k => XS.istore X1.here hx rfl (hb hby own_d_prog_32_method_13_code_31) rfl (l' := #[.val (.long q1), .second, .val (.ref a), .val (.int pl), .val (.long mm), .second, .val (.long (-(mm / (100 : Int64)))), .second, .val (.int ((-(mm - (mm / (100 : Int64)) * (100 : Int64))).toInt32)), .unset, .unset, .unset]) rfl k) ?_
    show own_Gl _ _ _ _ _ _ _ (T1.setTop (mkF m 33 #[.val (.long q1), .second, .val (.ref a), .val (.int pl), .val (.long mm), .second, .val (.long (-(mm / (100 : Int64)))), .second, .val (.int ((-(mm - (mm / (100 : Int64)) * (100 : Int64))).toInt32)), .unset, .unset, .unset] []))
    obtain ⟨yu, hyu⟩ : ∃ z, z = (-(mm / (100 : Int64))) := ⟨_, rfl⟩
    obtain ⟨ce, hce⟩ : ∃ z, z = ((-(mm - (mm / (100 : Int64)) * (100 : Int64))).toInt32) := ⟨_, rfl⟩
    rw [← hyu, ← hce]
    have hy : yu.toInt = (Y : Int) := by rw [hyu]; exact own_yu _ hm hC
    have hcc : ce.toInt = (C : Int) := by rw [hce]; exact own_ce _ hm hC
    show own_Gl _ _ _ _ _ _ _ (T1.setTop (mkF m 33 #[.val (.long q1), .second, .val (.ref a), .val (.int pl), .val (.long mm), .second, .val (.long yu), .second, .val (.int ce), .unset, .unset, .unset] []))
    have J45_2 : ∀ (T2 : State) (LL2 : List Loc) (N2 : Fr n0 LL2) (X2 : Stand p l e ({ frames := 1, cells := 0, slots := 0, locals := 17 } : Room) s m #[(.long q1), (.ref a), (.int pl)] below meth c T2 LL2 0 0) (e2 : T2.heap = h0) (ng : Int32) (hng : ng.toInt = (N : Int)), own_Gl p e below s (own_Q_own_tc Z q1 a pl k oa ta ko kt Y C N la h0 n0) ({ frames := 1, cells := 0, slots := 0, locals := 17 } : Room).cells ({ frames := 1, cells := 0, slots := 0, locals := 17 } : Room).slots (T2.setTop (mkF m 45 #[.val (.long q1), .second, .val (.ref a), .val (.int pl), .val (.long mm), .second, .val (.long yu), .second, .val (.int ce), .unset, .unset, .unset] [(.int ng), (.int pl)])) := by
      intro T2 LL2 N2 X2 e2 ng hng
      show own_Gl _ _ _ _ _ _ _ (T2.setTop (mkF m 45 #[.val (.long q1), .second, .val (.ref a), .val (.int pl), .val (.long mm), .second, .val (.long yu), .second, .val (.int ce), .unset, .unset, .unset] [(.int ng), (.int pl)]))
      refine own_st (fun _ k => XS.iadd X2.here hx rfl (hb hby own_d_prog_32_method_13_code_45) rfl k) ?_
      show own_Gl _ _ _ _ _ _ _ (T2.setTop (mkF m 46 #[.val (.long q1), .second, .val (.ref a), .val (.int pl), .val (.long mm), .second, .val (.long yu), .second, .val (.int ce), .unset, .unset, .unset] [(.int (pl + ng))]))
      refine own_st (fun _ k => XS.lload X2.here hx rfl (hb hby own_d_prog_32_method_13_code_46) rfl k) ?_
      show own_Gl _ _ _ _ _ _ _ (T2.setTop (mkF m 48 #[.val (.long q1), .second, .val (.ref a), .val (.int pl), .val (.long mm), .second, .val (.long yu), .second, .val (.int ce), .unset, .unset, .unset] [(.long yu), (.int (pl + ng))]))
      obtain ⟨_, _, ⟨T3, L3, k3, n3⟩, -, X3, ⟨Lc3, hQ3, l3, y3, z3⟩, st3⟩ := Jvm.LawKit.callS X2 hx (y := (⟨"org/benli/core/Money", "digits", "(J)I"⟩ : MethodName)) hown (mvT hZ (hw _ (List.mem_of_getElem? (i := 24) rfl))) (mvT hZ (hw _ (List.mem_of_getElem? (i := 25) rfl))) (mvT hZ (hw _ (List.mem_of_getElem? (i := 21) rfl))) (mvT hZ (hw _ (List.mem_of_getElem? (i := 26) rfl))) (by decide) (backOf (W := 1) (own_dig l Z a0 hw [] yu Y h0 n0 Z0 hy (own_Yb hA)) hZ (hw _ (List.mem_of_getElem? (i := 26) rfl)) (hw _ (List.mem_of_getElem? (i := 21) rfl)) (by decide) (by decide)) (g := (mkF m 48 #[.val (.long q1), .second, .val (.ref a), .val (.int pl), .val (.long mm), .second, .val (.long yu), .second, .val (.int ce), .unset, .unset, .unset] [(.long yu), (.int (pl + ng))])) rfl (by rw [hml]; rfl) (argsL := [(.long yu)]) (rest := [(.int (pl + ng))]) (lenOf own_pd91198998 rfl) rfl (by show 2 * 0 + _ ≤ _; exact Nat.le_of_eq rfl) (hb hby own_d_prog_32_method_13_code_48) (fun _ _ => ⟨rfl, e2, (by decide : 0 + 0 ≤ ({ frames := 1, cells := 0, slots := 0, locals := 17 } : Room).cells), (by decide : 0 + 0 ≤ ({ frames := 1, cells := 0, slots := 0, locals := 17 } : Room).slots)⟩)
      dsimp only [Pt.U, Pt.locs, Pt.cells, Pt.slots] at X3 l3 y3 z3 st3 hQ3
      subst l3 y3 z3
      obtain ⟨hh3, eh03⟩ : ∃ z, T3.heap = z := ⟨_, rfl⟩
      rw [eh03] at hQ3
      obtain ⟨w_3, dn_3, rfl, Nq3, eh3, P3_0⟩ := hQ3
      have N3 := Fr.app N2 Nq3
      refine own_st st3 ?_
      have e3 : T3.heap = h0 := eh03.trans eh3
      show own_Gl _ _ _ _ _ _ _ (T3.setTop (mkF m 51 #[.val (.long q1), .second, .val (.ref a), .val (.int pl), .val (.long mm), .second, .val (.long yu), .second, .val (.int ce), .unset, .unset, .unset] [(.int w_3), (.int (pl + ng))]))
      refine own_st (fun _ k => XS.iadd X3.here hx rfl (hb hby own_d_prog_32_method_13_code_51) rfl k) ?_
      show own_Gl _ _ _ _ _ _ _ (T3.setTop (mkF m 52 #[.val (.long q1), .second, .val (.ref a), .val (.int pl), .val (.long mm), .second, .val (.long yu), .second, .val (.int ce), .unset, .unset, .unset] [(.int ((pl + ng) + w_3))]))
      refine own_st (fun _ k => XS.iconst X3.here hx rfl (hb hby own_d_prog_32_method_13_code_52) k) ?_
      show own_Gl _ _ _ _ _ _ _ (T3.setTop (mkF m 53 #[.val (.long q1), .second, .val (.ref a), .val (.int pl), .val (.long mm), .second, .val (.long yu), .second, .val (.int ce), .unset, .unset, .unset] [(.int (1 : Int32)), (.int ((pl + ng) + w_3))]))
      refine own_st (fun _ k => XS.iadd X3.here hx rfl (hb hby own_d_prog_32_method_13_code_53) rfl k) ?_
      show own_Gl _ _ _ _ _ _ _ (T3.setTop (mkF m 54 #[.val (.long q1), .second, .val (.ref a), .val (.int pl), .val (.long mm), .second, .val (.long yu), .second, .val (.int ce), .unset, .unset, .unset] [(.int (((pl + ng) + w_3) + (1 : Int32)))]))
      refine own_st (fun _ k => XS.iconst X3.here hx rfl (hb hby own_d_prog_32_method_13_code_54) k) ?_
      show own_Gl _ _ _ _ _ _ _ (T3.setTop (mkF m 55 #[.val (.long q1), .second, .val (.ref a), .val (.int pl), .val (.long mm), .second, .val (.long yu), .second, .val (.int ce), .unset, .unset, .unset] [(.int (2 : Int32)), (.int (((pl + ng) + w_3) + (1 : Int32)))]))
      refine own_st (fun _ k => XS.iadd X3.here hx rfl (hb hby own_d_prog_32_method_13_code_55) rfl k) ?_
      show own_Gl _ _ _ _ _ _ _ (T3.setTop (mkF m 56 #[.val (.long q1), .second, .val (.ref a), .val (.int pl), .val (.long mm), .second, .val (.long yu), .second, .val (.int ce), .unset, .unset, .unset] [(.int ((((pl + ng) + w_3) + (1 : Int32)) + (2 : Int32)))]))
      refine own_st (fun _ k => XS.istore X3.here hx rfl (hb hby own_d_prog_32_method_13_code_56) rfl (l' := #[.val (.long q1), .second, .val (.ref a), .val (.int pl), .val (.long mm), .second, .val (.long yu), .second, .val (.int ce), .val (.int ((((pl + ng) + w_3) + (1 : Int32)) + (2 : Int32))), .unset, .unset]) rfl k) ?_
      show own_Gl _ _ _ _ _ _ _ (T3.setTop (mkF m 58 #[.val (.long q1), .second, .val (.ref a), .val (.int pl), .val (.long mm), .second, .val (.long yu), .second, .val (.int ce), .val (.int ((((pl + ng) + w_3) + (1 : Int32)) + (2 : Int32))), .unset, .unset] []))
      obtain ⟨hw1, hd1, hd2, hd3, hd4⟩ := P3_0
      obtain ⟨dn, hdn⟩ : ∃ z, z = dn_3 := ⟨_, rfl⟩
      rw [← hdn] at hw1 hd1 hd2 hd3 hd4
      have hNb : N ≤ 1 := by by_cases z : q1 < (0 : Int64); · rw [hN.1 z]; exact Nat.le_refl _
                             · rw [hN.2 z]; exact Nat.zero_le _
      obtain ⟨en, hen0⟩ : ∃ z, z = ((((pl + ng) + w_3) + (1 : Int32)) + (2 : Int32)) := ⟨_, rfl⟩
      rw [← hen0]
      have hen : en.toInt = ((la + N + dn + 3 : Nat) : Int) := by rw [hen0]; exact own_en hla.1 hla.2 hng hNb hw1 hd2
      show own_Gl _ _ _ _ _ _ _ (T3.setTop (mkF m 58 #[.val (.long q1), .second, .val (.ref a), .val (.int pl), .val (.long mm), .second, .val (.long yu), .second, .val (.int ce), .val (.int en), .unset, .unset] []))
      refine own_st (fun _ k => XS.aloadN X3.here hx rfl (hb hby own_d_prog_32_method_13_code_58) rfl rfl k) ?_
      show own_Gl _ _ _ _ _ _ _ (T3.setTop (mkF m 59 #[.val (.long q1), .second, .val (.ref a), .val (.int pl), .val (.long mm), .second, .val (.long yu), .second, .val (.int ce), .val (.int en), .unset, .unset] [(.ref a)]))
      refine own_st (fun _ k => XS.iload X3.here hx rfl (hb hby own_d_prog_32_method_13_code_59) rfl k) ?_
      show own_Gl _ _ _ _ _ _ _ (T3.setTop (mkF m 61 #[.val (.long q1), .second, .val (.ref a), .val (.int pl), .val (.long mm), .second, .val (.long yu), .second, .val (.int ce), .val (.int en), .unset, .unset] [(.int en), (.ref a)]))
      refine own_st (fun _ k => XS.iconst X3.here hx rfl (hb hby own_d_prog_32_method_13_code_61) k) ?_
      show own_Gl _ _ _ _ _ _ _ (T3.setTop (mkF m 62 #[.val (.long q1), .second, .val (.ref a), .val (.int pl), .val (.long mm), .second, .val (.long yu), .second, .val (.int ce), .val (.int en), .unset, .unset] [(.int (1 : Int32)), (.int en), (.ref a)]))
      refine own_st (fun _ k => XS.isub X3.here hx rfl (hb hby own_d_prog_32_method_13_code_62) rfl k) ?_
      show own_Gl _ _ _ _ _ _ _ (T3.setTop (mkF m 63 #[.val (.long q1), .second, .val (.ref a), .val (.int pl), .val (.long mm), .second, .val (.long yu), .second, .val (.int ce), .val (.int en), .unset, .unset] [(.int (en - (1 : Int32))), (.ref a)]))
      obtain ⟨T4, X4, e4, st4⟩ := getS2 X3 hx hZ hown (host := "") (Or.inl (hw _ (List.mem_of_getElem? (i := 28) rfl))) Via.refl e3 (S_ONES.ext Old0.2) (g := (mkF m 63 #[.val (.long q1), .second, .val (.ref a), .val (.int pl), .val (.long mm), .second, .val (.long yu), .second, .val (.int ce), .val (.int en), .unset, .unset] [(.int (en - (1 : Int32))), (.ref a)])) rfl (hb hby own_d_prog_32_method_13_code_63)
      refine own_st st4 ?_
      show own_Gl _ _ _ _ _ _ _ (T4.setTop (mkF m 66 #[.val (.long q1), .second, .val (.ref a), .val (.int pl), .val (.long mm), .second, .val (.long yu), .second, .val (.int ce), .val (.int en), .unset, .unset] [(.ref oa), (.int (en - (1 : Int32))), (.ref a)]))
      refine own_st (fun _ k => XS.iload X4.here hx rfl (hb hby own_d_prog_32_method_13_code_66) rfl k) ?_
      show own_Gl _ _ _ _ _ _ _ (T4.setTop (mkF m 68 #[.val (.long q1), .second, .val (.ref a), .val (.int pl), .val (.long mm), .second, .val (.long yu), .second, .val (.int ce), .val (.int en), .unset, .unset] [(.int ce), (.ref oa), (.int (en - (1 : Int32))), (.ref a)]))
      obtain ⟨cl5, Ar5, qq5, Ss5, Nn5, Hh5, Gg5⟩ := id V_oa
      have hin5 : ¬ (ce < 0 ∨ cl5.slots.size ≤ (ce).toNatClampNeg) := inb_of Ss5 (own_inI hcc (by decide : (100 : Int32).toInt = ((100 : Nat) : Int)) hC)
      have hat5 : cl5.slots[(ce).toNatClampNeg]? = some (.int (own_ones C)) := Hh5.at hin5 ((by rw [own_natI hcc]; exact own_fl_get _ _ _ _ hC))
      refine own_st (X4.caload hx (j := ce) (v := (.int (own_ones C))) (by rw [e4]; exact Ar5.1) (State.isArrayOf_alike hZ.alike Ar5.2.1) Ar5.2.2 hin5 hat5 (g := (mkF m 68 #[.val (.long q1), .second, .val (.ref a), .val (.int pl), .val (.long mm), .second, .val (.long yu), .second, .val (.int ce), .val (.int en), .unset, .unset] [(.int ce), (.ref oa), (.int (en - (1 : Int32))), (.ref a)])) rfl rfl (hb hby own_d_prog_32_method_13_code_68)) ?_
      show own_Gl _ _ _ _ _ _ _ (T4.setTop (mkF m 69 #[.val (.long q1), .second, .val (.ref a), .val (.int pl), .val (.long mm), .second, .val (.long yu), .second, .val (.int ce), .val (.int en), .unset, .unset] [(.int (own_ones C)), (.int (en - (1 : Int32))), (.ref a)]))
      obtain ⟨cl6, Ar6, qq6, Ss6, Nn6, Hh6, Gg6⟩ := id V_a
      have hin6 : ¬ ((en - (1 : Int32)) < 0 ∨ cl6.slots.size ≤ ((en - (1 : Int32))).toNatClampNeg) := inb_of Ss6 (own_inI (own_subI hen (by decide : (1 : Int32).toInt = ((1 : Nat) : Int)) (by omega)) (by decide : (26 : Int32).toInt = ((26 : Nat) : Int)) (by omega))
      obtain ⟨T6, h6, X6, e6, W6, st6⟩ := stC X4 hx hZ e4 Ar6 (j := (en - (1 : Int32))) hin6 (g := (mkF m 69 #[.val (.long q1), .second, .val (.ref a), .val (.int pl), .val (.long mm), .second, .val (.long yu), .second, .val (.int ce), .val (.int en), .unset, .unset] [(.int (own_ones C)), (.int (en - (1 : Int32))), (.ref a)])) rfl rfl (hb hby own_d_prog_32_method_13_code_69)
      have N6 := Fr.snoc X6 N3 g_a
      refine own_st st6 ?_
      have Zs7 : n0 ≤ h6.size := Nat.le_trans Z0 (Keep.of_wr W6).1
      have Vv6 := Arv.set Ar6 qq6 Ss6 Nn6 Hh6 Gg6 (fits_nar_char _) W6 (la + N + dn + 3 - 1) ((own_natI (own_subI hen (by decide : (1 : Int32).toInt = ((1 : Nat) : Int)) (by omega)))) (by rw [own_fl_len]; omega)
      rw [own_fl_set] at Vv6
      have Vw6 : Arv Z h6 a k .char (26 : Int32) (own_fl 26 (fun q => if q = (la + N + dn + 3 - 1) then (nar .char (own_ones C)) else (fun _ => (0 : Int32)) q)) (.int (0 : Int32)) := Vv6
      show own_Gl _ _ _ _ _ _ _ (T6.setTop (mkF m 70 #[.val (.long q1), .second, .val (.ref a), .val (.int pl), .val (.long mm), .second, .val (.long yu), .second, .val (.int ce), .val (.int en), .unset, .unset] []))
      refine own_st (fun _ k => XS.aloadN X6.here hx rfl (hb hby own_d_prog_32_method_13_code_70) rfl rfl k) ?_
      show own_Gl _ _ _ _ _ _ _ (T6.setTop (mkF m 71 #[.val (.long q1), .second, .val (.ref a), .val (.int pl), .val (.long mm), .second, .val (.long yu), .second, .val (.int ce), .val (.int en), .unset, .unset] [(.ref a)]))
      refine own_st (fun _ k => XS.iload X6.here hx rfl (hb hby own_d_prog_32_method_13_code_71) rfl k) ?_
      show own_Gl _ _ _ _ _ _ _ (T6.setTop (mkF m 73 #[.val (.long q1), .second, .val (.ref a), .val (.int pl), .val (.long mm), .second, .val (.long yu), .second, .val (.int ce), .val (.int en), .unset, .unset] [(.int en), (.ref a)]))
      refine own_st (fun _ k => XS.iconst X6.here hx rfl (hb hby own_d_prog_32_method_13_code_73) k) ?_
      show own_Gl _ _ _ _ _ _ _ (T6.setTop (mkF m 74 #[.val (.long q1), .second, .val (.ref a), .val (.int pl), .val (.long mm), .second, .val (.long yu), .second, .val (.int ce), .val (.int en), .unset, .unset] [(.int (2 : Int32)), (.int en), (.ref a)]))
      refine own_st (fun _ k => XS.isub X6.here hx rfl (hb hby own_d_prog_32_method_13_code_74) rfl k) ?_
      show own_Gl _ _ _ _ _ _ _ (T6.setTop (mkF m 75 #[.val (.long q1), .second, .val (.ref a), .val (.int pl), .val (.long mm), .second, .val (.long yu), .second, .val (.int ce), .val (.int en), .unset, .unset] [(.int (en - (2 : Int32))), (.ref a)]))
      have f9 := (Old0.wr W6 g_a)
      obtain ⟨T8, X8, e8, st8⟩ := getS2 X6 hx hZ hown (host := "") (Or.inl (hw _ (List.mem_of_getElem? (i := 30) rfl))) Via.refl e6 (S_TENS.ext f9.2) (g := (mkF m 75 #[.val (.long q1), .second, .val (.ref a), .val (.int pl), .val (.long mm), .second, .val (.long yu), .second, .val (.int ce), .val (.int en), .unset, .unset] [(.int (en - (2 : Int32))), (.ref a)])) rfl (hb hby own_d_prog_32_method_13_code_75)
      refine own_st st8 ?_
      show own_Gl _ _ _ _ _ _ _ (T8.setTop (mkF m 78 #[.val (.long q1), .second, .val (.ref a), .val (.int pl), .val (.long mm), .second, .val (.long yu), .second, .val (.int ce), .val (.int en), .unset, .unset] [(.ref ta), (.int (en - (2 : Int32))), (.ref a)]))
      refine own_st (fun _ k => XS.iload X8.here hx rfl (hb hby own_d_prog_32_method_13_code_78) rfl k) ?_
      show own_Gl _ _ _ _ _ _ _ (T8.setTop (mkF m 80 #[.val (.long q1), .second, .val (.ref a), .val (.int pl), .val (.long mm), .second, .val (.long yu), .second, .val (.int ce), .val (.int en), .unset, .unset] [(.int ce), (.ref ta), (.int (en - (2 : Int32))), (.ref a)]))
      have f10 := (V_ta.other W6 (Ne.symm ne_a_ta))
      obtain ⟨cl11, Ar11, qq11, Ss11, Nn11, Hh11, Gg11⟩ := id f10
      have hin11 : ¬ (ce < 0 ∨ cl11.slots.size ≤ (ce).toNatClampNeg) := inb_of Ss11 (own_inI hcc (by decide : (100 : Int32).toInt = ((100 : Nat) : Int)) hC)
      have hat11 : cl11.slots[(ce).toNatClampNeg]? = some (.int (own_tens C)) := Hh11.at hin11 ((by rw [own_natI hcc]; exact own_fl_get _ _ _ _ hC))
      refine own_st (X8.caload hx (j := ce) (v := (.int (own_tens C))) (by rw [e8]; exact Ar11.1) (State.isArrayOf_alike hZ.alike Ar11.2.1) Ar11.2.2 hin11 hat11 (g := (mkF m 80 #[.val (.long q1), .second, .val (.ref a), .val (.int pl), .val (.long mm), .second, .val (.long yu), .second, .val (.int ce), .val (.int en), .unset, .unset] [(.int ce), (.ref ta), (.int (en - (2 : Int32))), (.ref a)])) rfl rfl (hb hby own_d_prog_32_method_13_code_80)) ?_
      show own_Gl _ _ _ _ _ _ _ (T8.setTop (mkF m 81 #[.val (.long q1), .second, .val (.ref a), .val (.int pl), .val (.long mm), .second, .val (.long yu), .second, .val (.int ce), .val (.int en), .unset, .unset] [(.int (own_tens C)), (.int (en - (2 : Int32))), (.ref a)]))
      obtain ⟨cl12, Ar12, qq12, Ss12, Nn12, Hh12, Gg12⟩ := id Vw6
      have hin12 : ¬ ((en - (2 : Int32)) < 0 ∨ cl12.slots.size ≤ ((en - (2 : Int32))).toNatClampNeg) := inb_of Ss12 (own_inI (own_subI hen (by decide : (2 : Int32).toInt = ((2 : Nat) : Int)) (by omega)) (by decide : (26 : Int32).toInt = ((26 : Nat) : Int)) (by omega))
      obtain ⟨T12, h12, X12, e12, W12, st12⟩ := stC X8 hx hZ e8 Ar12 (j := (en - (2 : Int32))) hin12 (g := (mkF m 81 #[.val (.long q1), .second, .val (.ref a), .val (.int pl), .val (.long mm), .second, .val (.long yu), .second, .val (.int ce), .val (.int en), .unset, .unset] [(.int (own_tens C)), (.int (en - (2 : Int32))), (.ref a)])) rfl rfl (hb hby own_d_prog_32_method_13_code_81)
      have N12 := Fr.snoc X12 N6 g_a
      refine own_st st12 ?_
      have Zs13 : n0 ≤ h12.size := Nat.le_trans Zs7 (Keep.of_wr W12).1
      have Vv12 := Arv.set Ar12 qq12 Ss12 Nn12 Hh12 Gg12 (fits_nar_char _) W12 (la + N + dn + 3 - 2) ((own_natI (own_subI hen (by decide : (2 : Int32).toInt = ((2 : Nat) : Int)) (by omega)))) (by rw [own_fl_len]; omega)
      rw [own_fl_set] at Vv12
      have Vw12 : Arv Z h12 a k .char (26 : Int32) (own_fl 26 (fun q => if q = (la + N + dn + 3 - 2) then (nar .char (own_tens C)) else (fun q => if q = (la + N + dn + 3 - 1) then (nar .char (own_ones C)) else (fun _ => (0 : Int32)) q) q)) (.int (0 : Int32)) := Vv12
      show own_Gl _ _ _ _ _ _ _ (T12.setTop (mkF m 82 #[.val (.long q1), .second, .val (.ref a), .val (.int pl), .val (.long mm), .second, .val (.long yu), .second, .val (.int ce), .val (.int en), .unset, .unset] []))
      refine own_st (fun _ k => XS.aloadN X12.here hx rfl (hb hby own_d_prog_32_method_13_code_82) rfl rfl k) ?_
      show own_Gl _ _ _ _ _ _ _ (T12.setTop (mkF m 83 #[.val (.long q1), .second, .val (.ref a), .val (.int pl), .val (.long mm), .second, .val (.long yu), .second, .val (.int ce), .val (.int en), .unset, .unset] [(.ref a)]))
      refine own_st (fun _ k => XS.iload X12.here hx rfl (hb hby own_d_prog_32_method_13_code_83) rfl k) ?_
      show own_Gl _ _ _ _ _ _ _ (T12.setTop (mkF m 85 #[.val (.long q1), .second, .val (.ref a), .val (.int pl), .val (.long mm), .second, .val (.long yu), .second, .val (.int ce), .val (.int en), .unset, .unset] [(.int en), (.ref a)]))
      refine own_st (fun _ k => XS.iconst X12.here hx rfl (hb hby own_d_prog_32_method_13_code_85) k) ?_
      show own_Gl _ _ _ _ _ _ _ (T12.setTop (mkF m 86 #[.val (.long q1), .second, .val (.ref a), .val (.int pl), .val (.long mm), .second, .val (.long yu), .second, .val (.int ce), .val (.int en), .unset, .unset] [(.int (3 : Int32)), (.int en), (.ref a)]))
      refine own_st (fun _ k => XS.isub X12.here hx rfl (hb hby own_d_prog_32_method_13_code_86) rfl k) ?_
      show own_Gl _ _ _ _ _ _ _ (T12.setTop (mkF m 87 #[.val (.long q1), .second, .val (.ref a), .val (.int pl), .val (.long mm), .second, .val (.long yu), .second, .val (.int ce), .val (.int en), .unset, .unset] [(.int (en - (3 : Int32))), (.ref a)]))
      refine own_st (fun _ k => XS.bipush X12.here hx rfl (hb hby own_d_prog_32_method_13_code_87) k) ?_
      show own_Gl _ _ _ _ _ _ _ (T12.setTop (mkF m 89 #[.val (.long q1), .second, .val (.ref a), .val (.int pl), .val (.long mm), .second, .val (.long yu), .second, .val (.int ce), .val (.int en), .unset, .unset] [(.int (46 : Int32)), (.int (en - (3 : Int32))), (.ref a)]))
      obtain ⟨cl14, Ar14, qq14, Ss14, Nn14, Hh14, Gg14⟩ := id Vw12
      have hin14 : ¬ ((en - (3 : Int32)) < 0 ∨ cl14.slots.size ≤ ((en - (3 : Int32))).toNatClampNeg) := inb_of Ss14 (own_inI (own_subI hen (by decide : (3 : Int32).toInt = ((3 : Nat) : Int)) (by omega)) (by decide : (26 : Int32).toInt = ((26 : Nat) : Int)) (by omega))
      obtain ⟨T14, h14, X14, e14, W14, st14⟩ := stC X12 hx hZ e12 Ar14 (j := (en - (3 : Int32))) hin14 (g := (mkF m 89 #[.val (.long q1), .second, .val (.ref a), .val (.int pl), .val (.long mm), .second, .val (.long yu), .second, .val (.int ce), .val (.int en), .unset, .unset] [(.int (46 : Int32)), (.int (en - (3 : Int32))), (.ref a)])) rfl rfl (hb hby own_d_prog_32_method_13_code_89)
      have N14 := Fr.snoc X14 N12 g_a
      refine own_st st14 ?_
      have Zs15 : n0 ≤ h14.size := Nat.le_trans Zs13 (Keep.of_wr W14).1
      have Vv14 := Arv.set Ar14 qq14 Ss14 Nn14 Hh14 Gg14 (fits_nar_char _) W14 (la + N + dn + 3 - 3) ((own_natI (own_subI hen (by decide : (3 : Int32).toInt = ((3 : Nat) : Int)) (by omega)))) (by rw [own_fl_len]; omega)
      rw [own_fl_set] at Vv14
      have Vw14 : Arv Z h14 a k .char (26 : Int32) (own_fl 26 (fun q => if q = (la + N + dn + 3 - 3) then (nar .char (46 : Int32)) else (fun q => if q = (la + N + dn + 3 - 2) then (nar .char (own_tens C)) else (fun q => if q = (la + N + dn + 3 - 1) then (nar .char (own_ones C)) else (fun _ => (0 : Int32)) q) q) q)) (.int (0 : Int32)) := Vv14
      show own_Gl _ _ _ _ _ _ _ (T14.setTop (mkF m 90 #[.val (.long q1), .second, .val (.ref a), .val (.int pl), .val (.long mm), .second, .val (.long yu), .second, .val (.int ce), .val (.int en), .unset, .unset] []))
      refine own_st (fun _ k => XS.iload X14.here hx rfl (hb hby own_d_prog_32_method_13_code_90) rfl k) ?_
      show own_Gl _ _ _ _ _ _ _ (T14.setTop (mkF m 92 #[.val (.long q1), .second, .val (.ref a), .val (.int pl), .val (.long mm), .second, .val (.long yu), .second, .val (.int ce), .val (.int en), .unset, .unset] [(.int en)]))
      refine own_st (fun _ k => XS.iconst X14.here hx rfl (hb hby own_d_prog_32_method_13_code_92) k) ?_
      show own_Gl _ _ _ _ _ _ _ (T14.setTop (mkF m 93 #[.val (.long q1), .second, .val (.ref a), .val (.int pl), .val (.long mm), .second, .val (.long yu), .second, .val (.int ce), .val (.int en), .unset, .unset] [(.int (3 : Int32)), (.int en)]))
      refine own_st (fun _ k => XS.isub X14.here hx rfl (hb hby own_d_prog_32_method_13_code_93) rfl k) ?_
      show own_Gl _ _ _ _ _ _ _ (T14.setTop (mkF m 94 #[.val (.long q1), .second, .val (.ref a), .val (.int pl), .val (.long mm), .second, .val (.long yu), .second, .val (.int ce), .val (.int en), .unset, .unset] [(.int (en - (3 : Int32)))]))
      refine own_st (fun _ k => XS.istore X14.here hx rfl (hb hby own_d_prog_32_method_13_code_94) rfl (l' := #[.val (.long q1), .second, .val (.ref a), .val (.int pl), .val (.long mm), .second, .val (.long yu), .second, .val (.int ce), .val (.int en), .val (.int (en - (3 : Int32))), .unset]) rfl k) ?_
      show own_Gl _ _ _ _ _ _ _ (T14.setTop (mkF m 96 #[.val (.long q1), .second, .val (.ref a), .val (.int pl), .val (.long mm), .second, .val (.long yu), .second, .val (.int ce), .val (.int en), .val (.int (en - (3 : Int32))), .unset] []))
      have J96_16 : ∀ (k16 : Nat) (T16 : State) (LL16 : List Loc) (N16 : Fr n0 LL16) (X16 : Stand p l e ({ frames := 1, cells := 0, slots := 0, locals := 17 } : Room) s m #[(.long q1), (.ref a), (.int pl)] below meth c T16 LL16 0 0) (h16 : Heap) (e16 : T16.heap = h16) (y : Int64) (po : Int32) (g : Nat → Int32) (j : Nat) (Zs16 : n0 ≤ h16.size) (Kj16 : Keep h0 h16 [a]) (fj16_0 : Arv Z h16 a k .char (26 : Int32) (own_fl 26 g) (.int (0 : Int32))) (fj16_1 : Arv Z h16 oa ko .char (100 : Int32) (own_fl 100 own_ones) (.int (0 : Int32))) (fj16_2 : Arv Z h16 ta kt .char (100 : Int32) (own_fl 100 own_tens) (.int (0 : Int32))) (fj16_3 : Old Z n0 h16) (hyy : y.toInt = ((Y / 10 ^ j : Nat) : Int)) (hpo : po.toInt = ((la + N + dn - j : Nat) : Int)) (hj : j < dn) (hG : own_G Y C (la + N + dn + 3) (la + N + dn - j) g) (hk16 : dn - j = k16), own_Gl p e below s (own_Q_own_tc Z q1 a pl k oa ta ko kt Y C N la h0 n0) ({ frames := 1, cells := 0, slots := 0, locals := 17 } : Room).cells ({ frames := 1, cells := 0, slots := 0, locals := 17 } : Room).slots (T16.setTop (mkF m 96 #[.val (.long q1), .second, .val (.ref a), .val (.int pl), .val (.long mm), .second, .val (.long y), .second, .val (.int ce), .val (.int en), .val (.int po), .unset] [])) := by
        intro k16
        induction k16 using Nat.strongRecOn with
        | _ k16 ih16 =>
          intro T16 LL16 N16 X16 h16 e16 y po g j Zs16 Kj16 fj16_0 fj16_1 fj16_2 fj16_3 hyy hpo hj hG hk16
          show own_Gl _ _ _ _ _ _ _ (T16.setTop (mkF m 96 #[.val (.long q1), .second, .val (.ref a), .val (.int pl), .val (.long mm), .second, .val (.long y), .second, .val (.int ce), .val (.int en), .val (.int po), .unset] []))
          refine own_st (fun _ k => XS.lload X16.here hx rfl (hb hby own_d_prog_32_method_13_code_96) rfl k) ?_
          show own_Gl _ _ _ _ _ _ _ (T16.setTop (mkF m 98 #[.val (.long q1), .second, .val (.ref a), .val (.int pl), .val (.long mm), .second, .val (.long y), .second, .val (.int ce), .val (.int en), .val (.int po), .unset] [(.long y)]))
          refine own_st (X16.ldc2Long hx hown (mvT hZ (hw _ (List.mem_of_getElem? (i := 32) rfl))) (g := (mkF m 98 #[.val (.long q1), .second, .val (.ref a), .val (.int pl), .val (.long mm), .second, .val (.long y), .second, .val (.int ce), .val (.int en), .val (.int po), .unset] [(.long y)])) rfl (hb hby own_d_prog_32_method_13_code_98)) ?_
          show own_Gl _ _ _ _ _ _ _ (T16.setTop (mkF m 101 #[.val (.long q1), .second, .val (.ref a), .val (.int pl), .val (.long mm), .second, .val (.long y), .second, .val (.int ce), .val (.int en), .val (.int po), .unset] [(.long (2147483647 : Int64)), (.long y)]))
          refine own_st (fun _ k => XS.lcmp X16.here hx rfl (hb hby own_d_prog_32_method_13_code_101) rfl k) ?_
          show own_Gl _ _ _ _ _ _ _ (T16.setTop (mkF m 102 #[.val (.long q1), .second, .val (.ref a), .val (.int pl), .val (.long mm), .second, .val (.long y), .second, .val (.int ce), .val (.int en), .val (.int po), .unset] [(.int (lcmpW y (2147483647 : Int64)))]))
          by_cases hc102 : (2147483647 : Int64) < y
          · refine own_st (fun _ k => XS.ifNo X16.here hx rfl (hb hby own_d_prog_32_method_13_code_102) rfl ((if0 _ _).trans (tlt ((lw_gt _ _).mpr hc102)).2.2.2) k) ?_
            show own_Gl _ _ _ _ _ _ _ (T16.setTop (mkF m 105 #[.val (.long q1), .second, .val (.ref a), .val (.int pl), .val (.long mm), .second, .val (.long y), .second, .val (.int ce), .val (.int en), .val (.int po), .unset] []))
            refine own_st (fun _ k => XS.aloadN X16.here hx rfl (hb hby own_d_prog_32_method_13_code_105) rfl rfl k) ?_
            show own_Gl _ _ _ _ _ _ _ (T16.setTop (mkF m 106 #[.val (.long q1), .second, .val (.ref a), .val (.int pl), .val (.long mm), .second, .val (.long y), .second, .val (.int ce), .val (.int en), .val (.int po), .unset] [(.ref a)]))
            refine own_st (fun _ k => XS.iinc X16.here hx rfl (hb hby own_d_prog_32_method_13_code_106) rfl (l' := #[.val (.long q1), .second, .val (.ref a), .val (.int pl), .val (.long mm), .second, .val (.long y), .second, .val (.int ce), .val (.int en), .val (.int (po + (-1 : Int32))), .unset]) rfl k) ?_
            show own_Gl _ _ _ _ _ _ _ (T16.setTop (mkF m 109 #[.val (.long q1), .second, .val (.ref a), .val (.int pl), .val (.long mm), .second, .val (.long y), .second, .val (.int ce), .val (.int en), .val (.int (po + (-1 : Int32))), .unset] [(.ref a)]))
            refine own_st (fun _ k => XS.iload X16.here hx rfl (hb hby own_d_prog_32_method_13_code_109) rfl k) ?_
            show own_Gl _ _ _ _ _ _ _ (T16.setTop (mkF m 111 #[.val (.long q1), .second, .val (.ref a), .val (.int pl), .val (.long mm), .second, .val (.long y), .second, .val (.int ce), .val (.int en), .val (.int (po + (-1 : Int32))), .unset] [(.int (po + (-1 : Int32))), (.ref a)]))
            refine own_st (X16.ldc2Long hx hown (mvT hZ (hw _ (List.mem_of_getElem? (i := 44) rfl))) (g := (mkF m 111 #[.val (.long q1), .second, .val (.ref a), .val (.int pl), .val (.long mm), .second, .val (.long y), .second, .val (.int ce), .val (.int en), .val (.int (po + (-1 : Int32))), .unset] [(.int (po + (-1 : Int32))), (.ref a)])) rfl (hb hby own_d_prog_32_method_13_code_111)) ?_
            show own_Gl _ _ _ _ _ _ _ (T16.setTop (mkF m 114 #[.val (.long q1), .second, .val (.ref a), .val (.int pl), .val (.long mm), .second, .val (.long y), .second, .val (.int ce), .val (.int en), .val (.int (po + (-1 : Int32))), .unset] [(.long (48 : Int64)), (.int (po + (-1 : Int32))), (.ref a)]))
            refine own_st (fun _ k => XS.lload X16.here hx rfl (hb hby own_d_prog_32_method_13_code_114) rfl k) ?_
            show own_Gl _ _ _ _ _ _ _ (T16.setTop (mkF m 116 #[.val (.long q1), .second, .val (.ref a), .val (.int pl), .val (.long mm), .second, .val (.long y), .second, .val (.int ce), .val (.int en), .val (.int (po + (-1 : Int32))), .unset] [(.long y), (.long (48 : Int64)), (.int (po + (-1 : Int32))), (.ref a)]))
            refine own_st (X16.ldc2Long hx hown (mvT hZ (hw _ (List.mem_of_getElem? (i := 27) rfl))) (g := (mkF m 116 #[.val (.long q1), .second, .val (.ref a), .val (.int pl), .val (.long mm), .second, .val (.long y), .second, .val (.int ce), .val (.int en), .val (.int (po + (-1 : Int32))), .unset] [(.long y), (.long (48 : Int64)), (.int (po + (-1 : Int32))), (.ref a)])) rfl (hb hby own_d_prog_32_method_13_code_116)) ?_
            show own_Gl _ _ _ _ _ _ _ (T16.setTop (mkF m 119 #[.val (.long q1), .second, .val (.ref a), .val (.int pl), .val (.long mm), .second, .val (.long y), .second, .val (.int ce), .val (.int en), .val (.int (po + (-1 : Int32))), .unset] [(.long (10 : Int64)), (.long y), (.long (48 : Int64)), (.int (po + (-1 : Int32))), (.ref a)]))
            refine own_st (fun _ k => XS.lrem X16.here hx rfl (hb hby own_d_prog_32_method_13_code_119) rfl (by decide) k) ?_
            show own_Gl _ _ _ _ _ _ _ (T16.setTop (mkF m 120 #[.val (.long q1), .second, .val (.ref a), .val (.int pl), .val (.long mm), .second, .val (.long y), .second, .val (.int ce), .val (.int en), .val (.int (po + (-1 : Int32))), .unset] [(.long (y - (y / (10 : Int64)) * (10 : Int64))), (.long (48 : Int64)), (.int (po + (-1 : Int32))), (.ref a)]))
            refine own_st (fun _ k => XS.ladd X16.here hx rfl (hb hby own_d_prog_32_method_13_code_120) rfl k) ?_
            show own_Gl _ _ _ _ _ _ _ (T16.setTop (mkF m 121 #[.val (.long q1), .second, .val (.ref a), .val (.int pl), .val (.long mm), .second, .val (.long y), .second, .val (.int ce), .val (.int en), .val (.int (po + (-1 : Int32))), .unset] [(.long ((48 : Int64) + (y - (y / (10 : Int64)) * (10 : Int64)))), (.int (po + (-1 : Int32))), (.ref a)]))
            refine own_st (fun _ k => XS.l2i X16.here hx rfl (hb hby own_d_prog_32_method_13_code_121) rfl k) ?_
            show own_Gl _ _ _ _ _ _ _ (T16.setTop (mkF m 122 #[.val (.long q1), .second, .val (.ref a), .val (.int pl), .val (.long mm), .second, .val (.long y), .second, .val (.int ce), .val (.int en), .val (.int (po + (-1 : Int32))), .unset] [(.int (((48 : Int64) + (y - (y / (10 : Int64)) * (10 : Int64))).toInt32)), (.int (po + (-1 : Int32))), (.ref a)]))
            refine own_st (fun _ k => XS.i2c X16.here hx rfl (hb hby own_d_prog_32_method_13_code_122) rfl k) ?_
            show own_Gl _ _ _ _ _ _ _ (T16.setTop (mkF m 123 #[.val (.long q1), .second, .val (.ref a), .val (.int pl), .val (.long mm), .second, .val (.long y), .second, .val (.int ce), .val (.int en), .val (.int (po + (-1 : Int32))), .unset] [(.int ((((48 : Int64) + (y - (y / (10 : Int64)) * (10 : Int64))).toInt32).toUInt32.toUInt16.toUInt32.toInt32)), (.int (po + (-1 : Int32))), (.ref a)]))
            obtain ⟨cl17, Ar17, qq17, Ss17, Nn17, Hh17, Gg17⟩ := id fj16_0
            have hin17 : ¬ ((po + (-1 : Int32)) < 0 ∨ cl17.slots.size ≤ ((po + (-1 : Int32))).toNatClampNeg) := inb_of Ss17 (own_inI (own_decI hpo (by omega)) (by decide : (26 : Int32).toInt = ((26 : Nat) : Int)) (by omega))
            obtain ⟨T17, h17, X17, e17, W17, st17⟩ := stC X16 hx hZ e16 Ar17 (j := (po + (-1 : Int32))) hin17 (g := (mkF m 123 #[.val (.long q1), .second, .val (.ref a), .val (.int pl), .val (.long mm), .second, .val (.long y), .second, .val (.int ce), .val (.int en), .val (.int (po + (-1 : Int32))), .unset] [(.int ((((48 : Int64) + (y - (y / (10 : Int64)) * (10 : Int64))).toInt32).toUInt32.toUInt16.toUInt32.toInt32)), (.int (po + (-1 : Int32))), (.ref a)])) rfl rfl (hb hby own_d_prog_32_method_13_code_123)
            have N17 := Fr.snoc X17 N16 g_a
            refine own_st st17 ?_
            have Zs18 : n0 ≤ h17.size := Nat.le_trans Zs16 (Keep.of_wr W17).1
            have Vv17 := Arv.set Ar17 qq17 Ss17 Nn17 Hh17 Gg17 (fits_nar_char _) W17 ((la + N + dn - j) - 1) ((own_natI (own_decI hpo (by omega)))) (by rw [own_fl_len]; omega)
            rw [own_fl_set] at Vv17
            have Vw17 : Arv Z h17 a k .char (26 : Int32) (own_fl 26 (fun q => if q = ((la + N + dn - j) - 1) then (nar .char ((((48 : Int64) + (y - (y / (10 : Int64)) * (10 : Int64))).toInt32).toUInt32.toUInt16.toUInt32.toInt32)) else g q)) (.int (0 : Int32)) := Vv17
            show own_Gl _ _ _ _ _ _ _ (T17.setTop (mkF m 124 #[.val (.long q1), .second, .val (.ref a), .val (.int pl), .val (.long mm), .second, .val (.long y), .second, .val (.int ce), .val (.int en), .val (.int (po + (-1 : Int32))), .unset] []))
            have hG1 : own_G Y C (la + N + dn + 3) (la + N + dn - j - 1) (fun q => if q = ((la + N + dn - j) - 1) then (nar .char ((((48 : Int64) + (y - (y / (10 : Int64)) * (10 : Int64))).toInt32).toUInt32.toUInt16.toUInt32.toInt32)) else g q) := own_G_step (by omega) (by omega) hG _ (by rw [show la + N + dn + 3 - 3 - (la + N + dn - j) = j by omega]; exact own_d1 _ _ hyy)
            refine own_st (fun _ k => XS.lload X17.here hx rfl (hb hby own_d_prog_32_method_13_code_124) rfl k) ?_
            show own_Gl _ _ _ _ _ _ _ (T17.setTop (mkF m 126 #[.val (.long q1), .second, .val (.ref a), .val (.int pl), .val (.long mm), .second, .val (.long y), .second, .val (.int ce), .val (.int en), .val (.int (po + (-1 : Int32))), .unset] [(.long y)]))
            refine own_st (X17.ldc2Long hx hown (mvT hZ (hw _ (List.mem_of_getElem? (i := 27) rfl))) (g := (mkF m 126 #[.val (.long q1), .second, .val (.ref a), .val (.int pl), .val (.long mm), .second, .val (.long y), .second, .val (.int ce), .val (.int en), .val (.int (po + (-1 : Int32))), .unset] [(.long y)])) rfl (hb hby own_d_prog_32_method_13_code_126)) ?_
            show own_Gl _ _ _ _ _ _ _ (T17.setTop (mkF m 129 #[.val (.long q1), .second, .val (.ref a), .val (.int pl), .val (.long mm), .second, .val (.long y), .second, .val (.int ce), .val (.int en), .val (.int (po + (-1 : Int32))), .unset] [(.long (10 : Int64)), (.long y)]))
            refine own_st (fun _ k => XS.ldiv X17.here hx rfl (hb hby own_d_prog_32_method_13_code_129) rfl (by decide) k) ?_
            show own_Gl _ _ _ _ _ _ _ (T17.setTop (mkF m 130 #[.val (.long q1), .second, .val (.ref a), .val (.int pl), .val (.long mm), .second, .val (.long y), .second, .val (.int ce), .val (.int en), .val (.int (po + (-1 : Int32))), .unset] [(.long (y / (10 : Int64)))]))
            refine own_st (fun _ k => XS.lstore X17.here hx rfl (hb hby own_d_prog_32_method_13_code_130) rfl (l' := #[.val (.long q1), .second, .val (.ref a), .val (.int pl), .val (.long mm), .second, .val (.long (y / (10 : Int64))), .second, .val (.int ce), .val (.int en), .val (.int (po + (-1 : Int32))), .unset]) rfl k) ?_
            show own_Gl _ _ _ _ _ _ _ (T17.setTop (mkF m 132 #[.val (.long q1), .second, .val (.ref a), .val (.int pl), .val (.long mm), .second, .val (.long (y / (10 : Int64))), .second, .val (.int ce), .val (.int en), .val (.int (po + (-1 : Int32))), .unset] []))
            refine own_st (fun _ k => XS.goto X17.here hx rfl (pc0 := 132) (pc' := 96) rfl (hb hby own_d_prog_32_method_13_code_132) (by decide) (by decide) k) ?_
            show own_Gl _ _ _ _ _ _ _ (T17.setTop (mkF m 96 #[.val (.long q1), .second, .val (.ref a), .val (.int pl), .val (.long mm), .second, .val (.long (y / (10 : Int64))), .second, .val (.int ce), .val (.int en), .val (.int (po + (-1 : Int32))), .unset] []))
            have K19 : Keep h0 h17 [a] := (Kj16.wr W17 (Or.inl (List.mem_of_getElem? (i := 0) rfl)))
            have f20 := (fj16_1.other W17 (Ne.symm ne_a_oa))
            have f21 := (fj16_2.other W17 (Ne.symm ne_a_ta))
            have f22 := (fj16_3.wr W17 g_a)
            show own_Gl _ _ _ _ _ _ _ (T17.setTop (mkF m 96 #[.val (.long q1), .second, .val (.ref a), .val (.int pl), .val (.long mm), .second, .val (.long (y / (10 : Int64))), .second, .val (.int ce), .val (.int en), .val (.int (po + (-1 : Int32))), .unset] []))
            exact ih16 _ (by omega) T17 _ N17 X17 _ e17 ((y / (10 : Int64))) ((po + (-1 : Int32))) ((fun q => if q = ((la + N + dn - j) - 1) then (nar .char ((((48 : Int64) + (y - (y / (10 : Int64)) * (10 : Int64))).toInt32).toUInt32.toUInt16.toUInt32.toInt32)) else g q)) ((j + 1)) Zs18 K19 Vw17 f20 f21 f22 (by rw [own_dv _ _ hyy, own_pw]) (by rw [own_decI hpo (by omega)]; omega) (own_jlt hd3 hj (own_gt10 hyy hc102)) (by rw [show la + N + dn - (j + 1) = la + N + dn - j - 1 by omega]; exact hG1) rfl
          · refine own_st (fun _ k => XS.ifYes X16.here hx rfl (pc0 := 102) (pc' := 135) rfl (hb hby own_d_prog_32_method_13_code_102) rfl ((if0 _ _).trans (flt (mt (lw_gt _ _).mp hc102)).2.2.2) (by decide) (by decide) k) ?_
            show own_Gl _ _ _ _ _ _ _ (T16.setTop (mkF m 135 #[.val (.long q1), .second, .val (.ref a), .val (.int pl), .val (.long mm), .second, .val (.long y), .second, .val (.int ce), .val (.int en), .val (.int po), .unset] []))
            refine own_st (fun _ k => XS.lload X16.here hx rfl (hb hby own_d_prog_32_method_13_code_135) rfl k) ?_
            show own_Gl _ _ _ _ _ _ _ (T16.setTop (mkF m 137 #[.val (.long q1), .second, .val (.ref a), .val (.int pl), .val (.long mm), .second, .val (.long y), .second, .val (.int ce), .val (.int en), .val (.int po), .unset] [(.long y)]))
            refine own_st (fun _ k => XS.l2i X16.here hx rfl (hb hby own_d_prog_32_method_13_code_137) rfl k) ?_
            show own_Gl _ _ _ _ _ _ _ (T16.setTop (mkF m 138 #[.val (.long q1), .second, .val (.ref a), .val (.int pl), .val (.long mm), .second, .val (.long y), .second, .val (.int ce), .val (.int en), .val (.int po), .unset] [(.int (y.toInt32))]))
            refine own_st (fun _ k => XS.istore X16.here hx rfl (hb hby own_d_prog_32_method_13_code_138) rfl (l' := #[.val (.long q1), .second, .val (.ref a), .val (.int pl), .val (.long mm), .second, .val (.long y), .second, .val (.int ce), .val (.int en), .val (.int po), .val (.int (y.toInt32))]) rfl k) ?_
            show own_Gl _ _ _ _ _ _ _ (T16.setTop (mkF m 140 #[.val (.long q1), .second, .val (.ref a), .val (.int pl), .val (.long mm), .second, .val (.long y), .second, .val (.int ce), .val (.int en), .val (.int po), .val (.int (y.toInt32))] []))
            have J140_23 : ∀ (k23 : Nat) (T23 : State) (LL23 : List Loc) (N23 : Fr n0 LL23) (X23 : Stand p l e ({ frames := 1, cells := 0, slots := 0, locals := 17 } : Room) s m #[(.long q1), (.ref a), (.int pl)] below meth c T23 LL23 0 0) (h23 : Heap) (e23 : T23.heap = h23) (y1 : Int32) (po2 : Int32) (g2 : Nat → Int32) (j2 : Nat) (Zs23 : n0 ≤ h23.size) (Kj23 : Keep h0 h23 [a]) (fj23_0 : Arv Z h23 a k .char (26 : Int32) (own_fl 26 g2) (.int (0 : Int32))) (fj23_1 : Arv Z h23 oa ko .char (100 : Int32) (own_fl 100 own_ones) (.int (0 : Int32))) (fj23_2 : Arv Z h23 ta kt .char (100 : Int32) (own_fl 100 own_tens) (.int (0 : Int32))) (fj23_3 : Old Z n0 h23) (hyy2 : y1.toInt = ((Y / 10 ^ j2 : Nat) : Int)) (hpo2 : po2.toInt = ((la + N + dn - j2 : Nat) : Int)) (hj2 : j2 < dn) (hG2 : own_G Y C (la + N + dn + 3) (la + N + dn - j2) g2) (hk23 : dn - j2 = k23), own_Gl p e below s (own_Q_own_tc Z q1 a pl k oa ta ko kt Y C N la h0 n0) ({ frames := 1, cells := 0, slots := 0, locals := 17 } : Room).cells ({ frames := 1, cells := 0, slots := 0, locals := 17 } : Room).slots (T23.setTop (mkF m 140 #[.val (.long q1), .second, .val (.ref a), .val (.int pl), .val (.long mm), .second, .val (.long y), .second, .val (.int ce), .val (.int en), .val (.int po2), .val (.int y1)] [])) := by
              intro k23
              induction k23 using Nat.strongRecOn with
              | _ k23 ih23 =>
                intro T23 LL23 N23 X23 h23 e23 y1 po2 g2 j2 Zs23 Kj23 fj23_0 fj23_1 fj23_2 fj23_3 hyy2 hpo2 hj2 hG2 hk23
                show own_Gl _ _ _ _ _ _ _ (T23.setTop (mkF m 140 #[.val (.long q1), .second, .val (.ref a), .val (.int pl), .val (.long mm), .second, .val (.long y), .second, .val (.int ce), .val (.int en), .val (.int po2), .val (.int y1)] []))
                refine own_st (fun _ k => XS.iload X23.here hx rfl (hb hby own_d_prog_32_method_13_code_140) rfl k) ?_
                show own_Gl _ _ _ _ _ _ _ (T23.setTop (mkF m 142 #[.val (.long q1), .second, .val (.ref a), .val (.int pl), .val (.long mm), .second, .val (.long y), .second, .val (.int ce), .val (.int en), .val (.int po2), .val (.int y1)] [(.int y1)]))
                refine own_st (fun _ k => XS.bipush X23.here hx rfl (hb hby own_d_prog_32_method_13_code_142) k) ?_
                show own_Gl _ _ _ _ _ _ _ (T23.setTop (mkF m 144 #[.val (.long q1), .second, .val (.ref a), .val (.int pl), .val (.long mm), .second, .val (.long y), .second, .val (.int ce), .val (.int en), .val (.int po2), .val (.int y1)] [(.int (100 : Int32)), (.int y1)]))
                by_cases hc144 : y1 < (100 : Int32)
                · have hlt100 : Y / 10 ^ j2 < 100 := (own_ltI hyy2 (by decide : (100 : Int32).toInt = ((100 : Nat) : Int))).mp hc144
                  refine own_st (fun _ k => XS.icmpYes X23.here hx rfl (pc0 := 144) (pc' := 189) rfl (hb hby own_d_prog_32_method_13_code_144) rfl (tlt hc144).1 (by decide) (by decide) k) ?_
                  show own_Gl _ _ _ _ _ _ _ (T23.setTop (mkF m 189 #[.val (.long q1), .second, .val (.ref a), .val (.int pl), .val (.long mm), .second, .val (.long y), .second, .val (.int ce), .val (.int en), .val (.int po2), .val (.int y1)] []))
                  refine own_st (fun _ k => XS.aloadN X23.here hx rfl (hb hby own_d_prog_32_method_13_code_189) rfl rfl k) ?_
                  show own_Gl _ _ _ _ _ _ _ (T23.setTop (mkF m 190 #[.val (.long q1), .second, .val (.ref a), .val (.int pl), .val (.long mm), .second, .val (.long y), .second, .val (.int ce), .val (.int en), .val (.int po2), .val (.int y1)] [(.ref a)]))
                  refine own_st (fun _ k => XS.iinc X23.here hx rfl (hb hby own_d_prog_32_method_13_code_190) rfl (l' := #[.val (.long q1), .second, .val (.ref a), .val (.int pl), .val (.long mm), .second, .val (.long y), .second, .val (.int ce), .val (.int en), .val (.int (po2 + (-1 : Int32))), .val (.int y1)]) rfl k) ?_
                  show own_Gl _ _ _ _ _ _ _ (T23.setTop (mkF m 193 #[.val (.long q1), .second, .val (.ref a), .val (.int pl), .val (.long mm), .second, .val (.long y), .second, .val (.int ce), .val (.int en), .val (.int (po2 + (-1 : Int32))), .val (.int y1)] [(.ref a)]))
                  refine own_st (fun _ k => XS.iload X23.here hx rfl (hb hby own_d_prog_32_method_13_code_193) rfl k) ?_
                  show own_Gl _ _ _ _ _ _ _ (T23.setTop (mkF m 195 #[.val (.long q1), .second, .val (.ref a), .val (.int pl), .val (.long mm), .second, .val (.long y), .second, .val (.int ce), .val (.int en), .val (.int (po2 + (-1 : Int32))), .val (.int y1)] [(.int (po2 + (-1 : Int32))), (.ref a)]))
                  obtain ⟨T24, X24, e24, st24⟩ := getS2 X23 hx hZ hown (host := "") (Or.inl (hw _ (List.mem_of_getElem? (i := 28) rfl))) Via.refl e23 (S_ONES.ext fj23_3.2) (g := (mkF m 195 #[.val (.long q1), .second, .val (.ref a), .val (.int pl), .val (.long mm), .second, .val (.long y), .second, .val (.int ce), .val (.int en), .val (.int (po2 + (-1 : Int32))), .val (.int y1)] [(.int (po2 + (-1 : Int32))), (.ref a)])) rfl (hb hby own_d_prog_32_method_13_code_195)
                  refine own_st st24 ?_
                  show own_Gl _ _ _ _ _ _ _ (T24.setTop (mkF m 198 #[.val (.long q1), .second, .val (.ref a), .val (.int pl), .val (.long mm), .second, .val (.long y), .second, .val (.int ce), .val (.int en), .val (.int (po2 + (-1 : Int32))), .val (.int y1)] [(.ref oa), (.int (po2 + (-1 : Int32))), (.ref a)]))
                  refine own_st (fun _ k => XS.iload X24.here hx rfl (hb hby own_d_prog_32_method_13_code_198) rfl k) ?_
                  show own_Gl _ _ _ _ _ _ _ (T24.setTop (mkF m 200 #[.val (.long q1), .second, .val (.ref a), .val (.int pl), .val (.long mm), .second, .val (.long y), .second, .val (.int ce), .val (.int en), .val (.int (po2 + (-1 : Int32))), .val (.int y1)] [(.int y1), (.ref oa), (.int (po2 + (-1 : Int32))), (.ref a)]))
                  obtain ⟨cl25, Ar25, qq25, Ss25, Nn25, Hh25, Gg25⟩ := id fj23_1
                  have hin25 : ¬ (y1 < 0 ∨ cl25.slots.size ≤ (y1).toNatClampNeg) := inb_of Ss25 (own_inI hyy2 (by decide : (100 : Int32).toInt = ((100 : Nat) : Int)) hlt100)
                  have hat25 : cl25.slots[(y1).toNatClampNeg]? = some (.int (own_ones (Y / 10 ^ j2))) := Hh25.at hin25 ((by rw [own_natI hyy2]; exact own_fl_get _ _ _ _ hlt100))
                  refine own_st (X24.caload hx (j := y1) (v := (.int (own_ones (Y / 10 ^ j2)))) (by rw [e24]; exact Ar25.1) (State.isArrayOf_alike hZ.alike Ar25.2.1) Ar25.2.2 hin25 hat25 (g := (mkF m 200 #[.val (.long q1), .second, .val (.ref a), .val (.int pl), .val (.long mm), .second, .val (.long y), .second, .val (.int ce), .val (.int en), .val (.int (po2 + (-1 : Int32))), .val (.int y1)] [(.int y1), (.ref oa), (.int (po2 + (-1 : Int32))), (.ref a)])) rfl rfl (hb hby own_d_prog_32_method_13_code_200)) ?_
                  show own_Gl _ _ _ _ _ _ _ (T24.setTop (mkF m 201 #[.val (.long q1), .second, .val (.ref a), .val (.int pl), .val (.long mm), .second, .val (.long y), .second, .val (.int ce), .val (.int en), .val (.int (po2 + (-1 : Int32))), .val (.int y1)] [(.int (own_ones (Y / 10 ^ j2))), (.int (po2 + (-1 : Int32))), (.ref a)]))
                  obtain ⟨cl26, Ar26, qq26, Ss26, Nn26, Hh26, Gg26⟩ := id fj23_0
                  have hin26 : ¬ ((po2 + (-1 : Int32)) < 0 ∨ cl26.slots.size ≤ ((po2 + (-1 : Int32))).toNatClampNeg) := inb_of Ss26 (own_inI (own_decI hpo2 (by omega)) (by decide : (26 : Int32).toInt = ((26 : Nat) : Int)) (by omega))
                  obtain ⟨T26, h26, X26, e26, W26, st26⟩ := stC X24 hx hZ e24 Ar26 (j := (po2 + (-1 : Int32))) hin26 (g := (mkF m 201 #[.val (.long q1), .second, .val (.ref a), .val (.int pl), .val (.long mm), .second, .val (.long y), .second, .val (.int ce), .val (.int en), .val (.int (po2 + (-1 : Int32))), .val (.int y1)] [(.int (own_ones (Y / 10 ^ j2))), (.int (po2 + (-1 : Int32))), (.ref a)])) rfl rfl (hb hby own_d_prog_32_method_13_code_201)
                  have N26 := Fr.snoc X26 N23 g_a
                  refine own_st st26 ?_
                  have Zs27 : n0 ≤ h26.size := Nat.le_trans Zs23 (Keep.of_wr W26).1
                  have Vv26 := Arv.set Ar26 qq26 Ss26 Nn26 Hh26 Gg26 (fits_nar_char _) W26 ((la + N + dn - j2) - 1) ((own_natI (own_decI hpo2 (by omega)))) (by rw [own_fl_len]; omega)
                  rw [own_fl_set] at Vv26
                  have Vw26 : Arv Z h26 a k .char (26 : Int32) (own_fl 26 (fun q => if q = ((la + N + dn - j2) - 1) then (nar .char (own_ones (Y / 10 ^ j2))) else g2 q)) (.int (0 : Int32)) := Vv26
                  show own_Gl _ _ _ _ _ _ _ (T26.setTop (mkF m 202 #[.val (.long q1), .second, .val (.ref a), .val (.int pl), .val (.long mm), .second, .val (.long y), .second, .val (.int ce), .val (.int en), .val (.int (po2 + (-1 : Int32))), .val (.int y1)] []))
                  have hG3 : own_G Y C (la + N + dn + 3) (la + N + dn - j2 - 1) (fun q => if q = ((la + N + dn - j2) - 1) then (nar .char (own_ones (Y / 10 ^ j2))) else g2 q) := own_G_step (by omega) (by omega) hG2 _ (by rw [show la + N + dn + 3 - 3 - (la + N + dn - j2) = j2 by omega, own_ones_v _ hlt100])
                  have hpo3 : (po2 + (-1 : Int32)).toInt = ((la + N + dn - j2 - 1 : Nat) : Int) := own_decI hpo2 (by omega)
                  have J222_28 : ∀ (T28 : State) (LL28 : List Loc) (N28 : Fr n0 LL28) (X28 : Stand p l e ({ frames := 1, cells := 0, slots := 0, locals := 17 } : Room) s m #[(.long q1), (.ref a), (.int pl)] below meth c T28 LL28 0 0) (h28 : Heap) (e28 : T28.heap = h28) (po4 : Int32) (g4 : Nat → Int32) (Zs28 : n0 ≤ h28.size) (Kj28 : Keep h0 h28 [a]) (fj28_0 : Arv Z h28 a k .char (26 : Int32) (own_fl 26 g4) (.int (0 : Int32))) (fj28_1 : Arv Z h28 oa ko .char (100 : Int32) (own_fl 100 own_ones) (.int (0 : Int32))) (fj28_2 : Arv Z h28 ta kt .char (100 : Int32) (own_fl 100 own_tens) (.int (0 : Int32))) (fj28_3 : Old Z n0 h28) (hpo4 : po4.toInt = ((la + N : Nat) : Int)) (hG5 : own_G Y C (la + N + dn + 3) (la + N) g4), own_Gl p e below s (own_Q_own_tc Z q1 a pl k oa ta ko kt Y C N la h0 n0) ({ frames := 1, cells := 0, slots := 0, locals := 17 } : Room).cells ({ frames := 1, cells := 0, slots := 0, locals := 17 } : Room).slots (T28.setTop (mkF m 222 #[.val (.long q1), .second, .val (.ref a), .val (.int pl), .val (.long mm), .second, .val (.long y), .second, .val (.int ce), .val (.int en), .val (.int po4), .val (.int y1)] [])) := by
                    intro T28 LL28 N28 X28 h28 e28 po4 g4 Zs28 Kj28 fj28_0 fj28_1 fj28_2 fj28_3 hpo4 hG5
                    show own_Gl _ _ _ _ _ _ _ (T28.setTop (mkF m 222 #[.val (.long q1), .second, .val (.ref a), .val (.int pl), .val (.long mm), .second, .val (.long y), .second, .val (.int ce), .val (.int en), .val (.int po4), .val (.int y1)] []))
                    refine own_st (fun _ k => XS.lloadN X28.here hx rfl (hb hby own_d_prog_32_method_13_code_222) rfl k) ?_
                    show own_Gl _ _ _ _ _ _ _ (T28.setTop (mkF m 223 #[.val (.long q1), .second, .val (.ref a), .val (.int pl), .val (.long mm), .second, .val (.long y), .second, .val (.int ce), .val (.int en), .val (.int po4), .val (.int y1)] [(.long q1)]))
                    refine own_st (fun _ k => XS.lconst X28.here hx rfl (hb hby own_d_prog_32_method_13_code_223) k) ?_
                    show own_Gl _ _ _ _ _ _ _ (T28.setTop (mkF m 224 #[.val (.long q1), .second, .val (.ref a), .val (.int pl), .val (.long mm), .second, .val (.long y), .second, .val (.int ce), .val (.int en), .val (.int po4), .val (.int y1)] [(.long (0 : Int64)), (.long q1)]))
                    refine own_st (fun _ k => XS.lcmp X28.here hx rfl (hb hby own_d_prog_32_method_13_code_224) rfl k) ?_
                    show own_Gl _ _ _ _ _ _ _ (T28.setTop (mkF m 225 #[.val (.long q1), .second, .val (.ref a), .val (.int pl), .val (.long mm), .second, .val (.long y), .second, .val (.int ce), .val (.int en), .val (.int po4), .val (.int y1)] [(.int (lcmpW q1 (0 : Int64)))]))
                    by_cases hc225 : q1 < (0 : Int64)
                    · refine own_st (fun _ k => XS.ifNo X28.here hx rfl (hb hby own_d_prog_32_method_13_code_225) rfl ((if0 _ _).trans (tlt ((lw_lt _ _).mpr hc225)).2.1) k) ?_
                      show own_Gl _ _ _ _ _ _ _ (T28.setTop (mkF m 228 #[.val (.long q1), .second, .val (.ref a), .val (.int pl), .val (.long mm), .second, .val (.long y), .second, .val (.int ce), .val (.int en), .val (.int po4), .val (.int y1)] []))
                      refine own_st (fun _ k => XS.aloadN X28.here hx rfl (hb hby own_d_prog_32_method_13_code_228) rfl rfl k) ?_
                      show own_Gl _ _ _ _ _ _ _ (T28.setTop (mkF m 229 #[.val (.long q1), .second, .val (.ref a), .val (.int pl), .val (.long mm), .second, .val (.long y), .second, .val (.int ce), .val (.int en), .val (.int po4), .val (.int y1)] [(.ref a)]))
                      refine own_st (fun _ k => XS.iinc X28.here hx rfl (hb hby own_d_prog_32_method_13_code_229) rfl (l' := #[.val (.long q1), .second, .val (.ref a), .val (.int pl), .val (.long mm), .second, .val (.long y), .second, .val (.int ce), .val (.int en), .val (.int (po4 + (-1 : Int32))), .val (.int y1)]) rfl k) ?_
                      show own_Gl _ _ _ _ _ _ _ (T28.setTop (mkF m 232 #[.val (.long q1), .second, .val (.ref a), .val (.int pl), .val (.long mm), .second, .val (.long y), .second, .val (.int ce), .val (.int en), .val (.int (po4 + (-1 : Int32))), .val (.int y1)] [(.ref a)]))
                      refine own_st (fun _ k => XS.iload X28.here hx rfl (hb hby own_d_prog_32_method_13_code_232) rfl k) ?_
                      show own_Gl _ _ _ _ _ _ _ (T28.setTop (mkF m 234 #[.val (.long q1), .second, .val (.ref a), .val (.int pl), .val (.long mm), .second, .val (.long y), .second, .val (.int ce), .val (.int en), .val (.int (po4 + (-1 : Int32))), .val (.int y1)] [(.int (po4 + (-1 : Int32))), (.ref a)]))
                      refine own_st (fun _ k => XS.bipush X28.here hx rfl (hb hby own_d_prog_32_method_13_code_234) k) ?_
                      show own_Gl _ _ _ _ _ _ _ (T28.setTop (mkF m 236 #[.val (.long q1), .second, .val (.ref a), .val (.int pl), .val (.long mm), .second, .val (.long y), .second, .val (.int ce), .val (.int en), .val (.int (po4 + (-1 : Int32))), .val (.int y1)] [(.int (45 : Int32)), (.int (po4 + (-1 : Int32))), (.ref a)]))
                      obtain ⟨cl29, Ar29, qq29, Ss29, Nn29, Hh29, Gg29⟩ := id fj28_0
                      have hin29 : ¬ ((po4 + (-1 : Int32)) < 0 ∨ cl29.slots.size ≤ ((po4 + (-1 : Int32))).toNatClampNeg) := inb_of Ss29 (own_inI (own_decI hpo4 (by rw [hN.1 hc225]; omega)) (by decide : (26 : Int32).toInt = ((26 : Nat) : Int)) (by have := hN.1 hc225; omega))
                      obtain ⟨T29, h29, X29, e29, W29, st29⟩ := stC X28 hx hZ e28 Ar29 (j := (po4 + (-1 : Int32))) hin29 (g := (mkF m 236 #[.val (.long q1), .second, .val (.ref a), .val (.int pl), .val (.long mm), .second, .val (.long y), .second, .val (.int ce), .val (.int en), .val (.int (po4 + (-1 : Int32))), .val (.int y1)] [(.int (45 : Int32)), (.int (po4 + (-1 : Int32))), (.ref a)])) rfl rfl (hb hby own_d_prog_32_method_13_code_236)
                      have N29 := Fr.snoc X29 N28 g_a
                      refine own_st st29 ?_
                      have Zs30 : n0 ≤ h29.size := Nat.le_trans Zs28 (Keep.of_wr W29).1
                      have Vv29 := Arv.set Ar29 qq29 Ss29 Nn29 Hh29 Gg29 (fits_nar_char _) W29 la (((own_natI (own_decI hpo4 (by rw [hN.1 hc225]; omega))).trans (by have := hN.1 hc225; omega))) (by rw [own_fl_len]; omega)
                      rw [own_fl_set] at Vv29
                      have Vw29 : Arv Z h29 a k .char (26 : Int32) (own_fl 26 (fun q => if q = la then (nar .char (45 : Int32)) else g4 q)) (.int (0 : Int32)) := Vv29
                      show own_Gl _ _ _ _ _ _ _ (T29.setTop (mkF m 237 #[.val (.long q1), .second, .val (.ref a), .val (.int pl), .val (.long mm), .second, .val (.long y), .second, .val (.int ce), .val (.int en), .val (.int (po4 + (-1 : Int32))), .val (.int y1)] []))
                      refine own_st (fun _ k => XS.iload X29.here hx rfl (hb hby own_d_prog_32_method_13_code_237) rfl k) ?_
                      show own_Gl _ _ _ _ _ _ _ (T29.setTop (mkF m 239 #[.val (.long q1), .second, .val (.ref a), .val (.int pl), .val (.long mm), .second, .val (.long y), .second, .val (.int ce), .val (.int en), .val (.int (po4 + (-1 : Int32))), .val (.int y1)] [(.int en)]))
                      refine own_st (fun _ k => XS.iloadN X29.here hx rfl (hb hby own_d_prog_32_method_13_code_239) rfl k) ?_
                      show own_Gl _ _ _ _ _ _ _ (T29.setTop (mkF m 240 #[.val (.long q1), .second, .val (.ref a), .val (.int pl), .val (.long mm), .second, .val (.long y), .second, .val (.int ce), .val (.int en), .val (.int (po4 + (-1 : Int32))), .val (.int y1)] [(.int pl), (.int en)]))
                      refine own_st (fun _ k => XS.isub X29.here hx rfl (hb hby own_d_prog_32_method_13_code_240) rfl k) ?_
                      show own_Gl _ _ _ _ _ _ _ (T29.setTop (mkF m 241 #[.val (.long q1), .second, .val (.ref a), .val (.int pl), .val (.long mm), .second, .val (.long y), .second, .val (.int ce), .val (.int en), .val (.int (po4 + (-1 : Int32))), .val (.int y1)] [(.int (en - pl))]))
                      have K31 : Keep h0 h29 [a] := (Kj28.wr W29 (Or.inl (List.mem_of_getElem? (i := 0) rfl)))
                      exact own_retI X29 hx hlk hret (hb hby own_d_prog_32_method_13_code_241) e29 ⟨_, _, dn, rfl, N29, K31, Vw29, (by rw [own_subI hen hla.1 (by omega)]; omega), ⟨hd1, hd2, hd3, hd4⟩, (own_fs1 (hN.1 hc225) hG5)⟩ (by decide) (by decide)
                    · refine own_st (fun _ k => XS.ifYes X28.here hx rfl (pc0 := 225) (pc' := 237) rfl (hb hby own_d_prog_32_method_13_code_225) rfl ((if0 _ _).trans (flt (mt (lw_lt _ _).mp hc225)).2.1) (by decide) (by decide) k) ?_
                      show own_Gl _ _ _ _ _ _ _ (T28.setTop (mkF m 237 #[.val (.long q1), .second, .val (.ref a), .val (.int pl), .val (.long mm), .second, .val (.long y), .second, .val (.int ce), .val (.int en), .val (.int po4), .val (.int y1)] []))
                      refine own_st (fun _ k => XS.iload X28.here hx rfl (hb hby own_d_prog_32_method_13_code_237) rfl k) ?_
                      show own_Gl _ _ _ _ _ _ _ (T28.setTop (mkF m 239 #[.val (.long q1), .second, .val (.ref a), .val (.int pl), .val (.long mm), .second, .val (.long y), .second, .val (.int ce), .val (.int en), .val (.int po4), .val (.int y1)] [(.int en)]))
                      refine own_st (fun _ k => XS.iloadN X28.here hx rfl (hb hby own_d_prog_32_method_13_code_239) rfl k) ?_
                      show own_Gl _ _ _ _ _ _ _ (T28.setTop (mkF m 240 #[.val (.long q1), .second, .val (.ref a), .val (.int pl), .val (.long mm), .second, .val (.long y), .second, .val (.int ce), .val (.int en), .val (.int po4), .val (.int y1)] [(.int pl), (.int en)]))
                      refine own_st (fun _ k => XS.isub X28.here hx rfl (hb hby own_d_prog_32_method_13_code_240) rfl k) ?_
                      show own_Gl _ _ _ _ _ _ _ (T28.setTop (mkF m 241 #[.val (.long q1), .second, .val (.ref a), .val (.int pl), .val (.long mm), .second, .val (.long y), .second, .val (.int ce), .val (.int en), .val (.int po4), .val (.int y1)] [(.int (en - pl))]))
                      exact own_retI X28 hx hlk hret (hb hby own_d_prog_32_method_13_code_241) e28 ⟨_, _, dn, rfl, N28, Kj28, fj28_0, (by rw [own_subI hen hla.1 (by omega)]; omega), ⟨hd1, hd2, hd3, hd4⟩, (own_fs0 (hN.2 hc225) hG5)⟩ (by decide) (by decide)
                  refine own_st (fun _ k => XS.iload X26.here hx rfl (hb hby own_d_prog_32_method_13_code_202) rfl k) ?_
                  show own_Gl _ _ _ _ _ _ _ (T26.setTop (mkF m 204 #[.val (.long q1), .second, .val (.ref a), .val (.int pl), .val (.long mm), .second, .val (.long y), .second, .val (.int ce), .val (.int en), .val (.int (po2 + (-1 : Int32))), .val (.int y1)] [(.int y1)]))
                  refine own_st (fun _ k => XS.bipush X26.here hx rfl (hb hby own_d_prog_32_method_13_code_204) k) ?_
                  show own_Gl _ _ _ _ _ _ _ (T26.setTop (mkF m 206 #[.val (.long q1), .second, .val (.ref a), .val (.int pl), .val (.long mm), .second, .val (.long y), .second, .val (.int ce), .val (.int en), .val (.int (po2 + (-1 : Int32))), .val (.int y1)] [(.int (10 : Int32)), (.int y1)]))
                  by_cases hc206 : y1 < (10 : Int32)
                  · have hend : dn = j2 + 1 := own_jend hj2 hd4 ((own_ltI hyy2 (by decide : (10 : Int32).toInt = ((10 : Nat) : Int))).mp hc206)
                    refine own_st (fun _ k => XS.icmpYes X26.here hx rfl (pc0 := 206) (pc' := 222) rfl (hb hby own_d_prog_32_method_13_code_206) rfl (tlt hc206).1 (by decide) (by decide) k) ?_
                    show own_Gl _ _ _ _ _ _ _ (T26.setTop (mkF m 222 #[.val (.long q1), .second, .val (.ref a), .val (.int pl), .val (.long mm), .second, .val (.long y), .second, .val (.int ce), .val (.int en), .val (.int (po2 + (-1 : Int32))), .val (.int y1)] []))
                    have K32 : Keep h0 h26 [a] := (Kj23.wr W26 (Or.inl (List.mem_of_getElem? (i := 0) rfl)))
                    have f33 := (fj23_1.other W26 (Ne.symm ne_a_oa))
                    have f34 := (fj23_2.other W26 (Ne.symm ne_a_ta))
                    have f35 := (fj23_3.wr W26 g_a)
                    show own_Gl _ _ _ _ _ _ _ (T26.setTop (mkF m 222 #[.val (.long q1), .second, .val (.ref a), .val (.int pl), .val (.long mm), .second, .val (.long y), .second, .val (.int ce), .val (.int en), .val (.int (po2 + (-1 : Int32))), .val (.int y1)] []))
                    exact J222_28 T26 _ N26 X26 _ e26 ((po2 + (-1 : Int32))) ((fun q => if q = ((la + N + dn - j2) - 1) then (nar .char (own_ones (Y / 10 ^ j2))) else g2 q)) Zs27 K32 Vw26 f33 f34 f35 (by rw [hpo3]; omega) (own_G_cast (by omega) hG3)
                  · have hge10 : 10 ≤ Y / 10 ^ j2 := Nat.le_of_not_lt fun z => hc206 ((own_ltI hyy2 (by decide : (10 : Int32).toInt = ((10 : Nat) : Int))).mpr z)
                    have hend : dn = j2 + 2 := own_jend2 hd3 hj2 hd4 hge10 hlt100
                    refine own_st (fun _ k => XS.icmpNo X26.here hx rfl (hb hby own_d_prog_32_method_13_code_206) rfl (flt hc206).1 k) ?_
                    show own_Gl _ _ _ _ _ _ _ (T26.setTop (mkF m 209 #[.val (.long q1), .second, .val (.ref a), .val (.int pl), .val (.long mm), .second, .val (.long y), .second, .val (.int ce), .val (.int en), .val (.int (po2 + (-1 : Int32))), .val (.int y1)] []))
                    refine own_st (fun _ k => XS.aloadN X26.here hx rfl (hb hby own_d_prog_32_method_13_code_209) rfl rfl k) ?_
                    show own_Gl _ _ _ _ _ _ _ (T26.setTop (mkF m 210 #[.val (.long q1), .second, .val (.ref a), .val (.int pl), .val (.long mm), .second, .val (.long y), .second, .val (.int ce), .val (.int en), .val (.int (po2 + (-1 : Int32))), .val (.int y1)] [(.ref a)]))
                    refine own_st (fun _ k => XS.iinc X26.here hx rfl (hb hby own_d_prog_32_method_13_code_210) rfl (l' := #[.val (.long q1), .second, .val (.ref a), .val (.int pl), .val (.long mm), .second, .val (.long y), .second, .val (.int ce), .val (.int en), .val (.int ((po2 + (-1 : Int32)) + (-1 : Int32))), .val (.int y1)]) rfl k) ?_
                    show own_Gl _ _ _ _ _ _ _ (T26.setTop (mkF m 213 #[.val (.long q1), .second, .val (.ref a), .val (.int pl), .val (.long mm), .second, .val (.long y), .second, .val (.int ce), .val (.int en), .val (.int ((po2 + (-1 : Int32)) + (-1 : Int32))), .val (.int y1)] [(.ref a)]))
                    refine own_st (fun _ k => XS.iload X26.here hx rfl (hb hby own_d_prog_32_method_13_code_213) rfl k) ?_
                    show own_Gl _ _ _ _ _ _ _ (T26.setTop (mkF m 215 #[.val (.long q1), .second, .val (.ref a), .val (.int pl), .val (.long mm), .second, .val (.long y), .second, .val (.int ce), .val (.int en), .val (.int ((po2 + (-1 : Int32)) + (-1 : Int32))), .val (.int y1)] [(.int ((po2 + (-1 : Int32)) + (-1 : Int32))), (.ref a)]))
                    have f37 := (fj23_3.wr W26 g_a)
                    obtain ⟨T36, X36, e36, st36⟩ := getS2 X26 hx hZ hown (host := "") (Or.inl (hw _ (List.mem_of_getElem? (i := 30) rfl))) Via.refl e26 (S_TENS.ext f37.2) (g := (mkF m 215 #[.val (.long q1), .second, .val (.ref a), .val (.int pl), .val (.long mm), .second, .val (.long y), .second, .val (.int ce), .val (.int en), .val (.int ((po2 + (-1 : Int32)) + (-1 : Int32))), .val (.int y1)] [(.int ((po2 + (-1 : Int32)) + (-1 : Int32))), (.ref a)])) rfl (hb hby own_d_prog_32_method_13_code_215)
                    refine own_st st36 ?_
                    show own_Gl _ _ _ _ _ _ _ (T36.setTop (mkF m 218 #[.val (.long q1), .second, .val (.ref a), .val (.int pl), .val (.long mm), .second, .val (.long y), .second, .val (.int ce), .val (.int en), .val (.int ((po2 + (-1 : Int32)) + (-1 : Int32))), .val (.int y1)] [(.ref ta), (.int ((po2 + (-1 : Int32)) + (-1 : Int32))), (.ref a)]))
                    refine own_st (fun _ k => XS.iload X36.here hx rfl (hb hby own_d_prog_32_method_13_code_218) rfl k) ?_
                    show own_Gl _ _ _ _ _ _ _ (T36.setTop (mkF m 220 #[.val (.long q1), .second, .val (.ref a), .val (.int pl), .val (.long mm), .second, .val (.long y), .second, .val (.int ce), .val (.int en), .val (.int ((po2 + (-1 : Int32)) + (-1 : Int32))), .val (.int y1)] [(.int y1), (.ref ta), (.int ((po2 + (-1 : Int32)) + (-1 : Int32))), (.ref a)]))
                    have f38 := (fj23_2.other W26 (Ne.symm ne_a_ta))
                    obtain ⟨cl39, Ar39, qq39, Ss39, Nn39, Hh39, Gg39⟩ := id f38
                    have hin39 : ¬ (y1 < 0 ∨ cl39.slots.size ≤ (y1).toNatClampNeg) := inb_of Ss39 (own_inI hyy2 (by decide : (100 : Int32).toInt = ((100 : Nat) : Int)) hlt100)
                    have hat39 : cl39.slots[(y1).toNatClampNeg]? = some (.int (own_tens (Y / 10 ^ j2))) := Hh39.at hin39 ((by rw [own_natI hyy2]; exact own_fl_get _ _ _ _ hlt100))
                    refine own_st (X36.caload hx (j := y1) (v := (.int (own_tens (Y / 10 ^ j2)))) (by rw [e36]; exact Ar39.1) (State.isArrayOf_alike hZ.alike Ar39.2.1) Ar39.2.2 hin39 hat39 (g := (mkF m 220 #[.val (.long q1), .second, .val (.ref a), .val (.int pl), .val (.long mm), .second, .val (.long y), .second, .val (.int ce), .val (.int en), .val (.int ((po2 + (-1 : Int32)) + (-1 : Int32))), .val (.int y1)] [(.int y1), (.ref ta), (.int ((po2 + (-1 : Int32)) + (-1 : Int32))), (.ref a)])) rfl rfl (hb hby own_d_prog_32_method_13_code_220)) ?_
                    show own_Gl _ _ _ _ _ _ _ (T36.setTop (mkF m 221 #[.val (.long q1), .second, .val (.ref a), .val (.int pl), .val (.long mm), .second, .val (.long y), .second, .val (.int ce), .val (.int en), .val (.int ((po2 + (-1 : Int32)) + (-1 : Int32))), .val (.int y1)] [(.int (own_tens (Y / 10 ^ j2))), (.int ((po2 + (-1 : Int32)) + (-1 : Int32))), (.ref a)]))
                    obtain ⟨cl40, Ar40, qq40, Ss40, Nn40, Hh40, Gg40⟩ := id Vw26
                    have hin40 : ¬ (((po2 + (-1 : Int32)) + (-1 : Int32)) < 0 ∨ cl40.slots.size ≤ (((po2 + (-1 : Int32)) + (-1 : Int32))).toNatClampNeg) := inb_of Ss40 (own_inI (own_decI hpo3 (by omega)) (by decide : (26 : Int32).toInt = ((26 : Nat) : Int)) (by omega))
                    obtain ⟨T40, h40, X40, e40, W40, st40⟩ := stC X36 hx hZ e36 Ar40 (j := ((po2 + (-1 : Int32)) + (-1 : Int32))) hin40 (g := (mkF m 221 #[.val (.long q1), .second, .val (.ref a), .val (.int pl), .val (.long mm), .second, .val (.long y), .second, .val (.int ce), .val (.int en), .val (.int ((po2 + (-1 : Int32)) + (-1 : Int32))), .val (.int y1)] [(.int (own_tens (Y / 10 ^ j2))), (.int ((po2 + (-1 : Int32)) + (-1 : Int32))), (.ref a)])) rfl rfl (hb hby own_d_prog_32_method_13_code_221)
                    have N40 := Fr.snoc X40 N26 g_a
                    refine own_st st40 ?_
                    have Zs41 : n0 ≤ h40.size := Nat.le_trans Zs27 (Keep.of_wr W40).1
                    have Vv40 := Arv.set Ar40 qq40 Ss40 Nn40 Hh40 Gg40 (fits_nar_char _) W40 ((la + N + dn - j2 - 1) - 1) ((own_natI (own_decI hpo3 (by omega)))) (by rw [own_fl_len]; omega)
                    rw [own_fl_set] at Vv40
                    have Vw40 : Arv Z h40 a k .char (26 : Int32) (own_fl 26 (fun q => if q = ((la + N + dn - j2 - 1) - 1) then (nar .char (own_tens (Y / 10 ^ j2))) else (fun q => if q = ((la + N + dn - j2) - 1) then (nar .char (own_ones (Y / 10 ^ j2))) else g2 q) q)) (.int (0 : Int32)) := Vv40
                    show own_Gl _ _ _ _ _ _ _ (T40.setTop (mkF m 222 #[.val (.long q1), .second, .val (.ref a), .val (.int pl), .val (.long mm), .second, .val (.long y), .second, .val (.int ce), .val (.int en), .val (.int ((po2 + (-1 : Int32)) + (-1 : Int32))), .val (.int y1)] []))
                    have hG4 : own_G Y C (la + N + dn + 3) (la + N + dn - j2 - 1 - 1) (fun q => if q = ((la + N + dn - j2 - 1) - 1) then (nar .char (own_tens (Y / 10 ^ j2))) else (fun q => if q = ((la + N + dn - j2) - 1) then (nar .char (own_ones (Y / 10 ^ j2))) else g2 q) q) := own_G_step (by omega) (by omega) hG3 _ (by rw [show la + N + dn + 3 - 3 - (la + N + dn - j2 - 1) = j2 + 1 by omega, own_tens_v _ hlt100, ← own_pw]; omega)
                    have K42 : Keep h0 h40 [a] := ((Kj23.wr W26 (Or.inl (List.mem_of_getElem? (i := 0) rfl))).wr W40 (Or.inl (List.mem_of_getElem? (i := 0) rfl)))
                    have f43 := ((fj23_1.other W26 (Ne.symm ne_a_oa)).other W40 (Ne.symm ne_a_oa))
                    have f44 := (f38.other W40 (Ne.symm ne_a_ta))
                    have f45 := (f37.wr W40 g_a)
                    show own_Gl _ _ _ _ _ _ _ (T40.setTop (mkF m 222 #[.val (.long q1), .second, .val (.ref a), .val (.int pl), .val (.long mm), .second, .val (.long y), .second, .val (.int ce), .val (.int en), .val (.int ((po2 + (-1 : Int32)) + (-1 : Int32))), .val (.int y1)] []))
                    exact J222_28 T40 _ N40 X40 _ e40 (((po2 + (-1 : Int32)) + (-1 : Int32))) ((fun q => if q = ((la + N + dn - j2 - 1) - 1) then (nar .char (own_tens (Y / 10 ^ j2))) else (fun q => if q = ((la + N + dn - j2) - 1) then (nar .char (own_ones (Y / 10 ^ j2))) else g2 q) q)) Zs41 K42 Vw40 f43 f44 f45 (by rw [own_decI hpo3 (by omega)]; omega) (own_G_cast (by omega) hG4)
                · have hge100 : 100 ≤ Y / 10 ^ j2 := Nat.le_of_not_lt fun z => hc144 ((own_ltI hyy2 (by decide : (100 : Int32).toInt = ((100 : Nat) : Int))).mpr z)
                  have hjj := own_jlt2 hd3 hj2 hge100
                  have hmod : Y / 10 ^ j2 % 100 < 100 := Nat.mod_lt _ (by decide)
                  refine own_st (fun _ k => XS.icmpNo X23.here hx rfl (hb hby own_d_prog_32_method_13_code_144) rfl (flt hc144).1 k) ?_
                  show own_Gl _ _ _ _ _ _ _ (T23.setTop (mkF m 147 #[.val (.long q1), .second, .val (.ref a), .val (.int pl), .val (.long mm), .second, .val (.long y), .second, .val (.int ce), .val (.int en), .val (.int po2), .val (.int y1)] []))
                  refine own_st (fun _ k => XS.aloadN X23.here hx rfl (hb hby own_d_prog_32_method_13_code_147) rfl rfl k) ?_
                  show own_Gl _ _ _ _ _ _ _ (T23.setTop (mkF m 148 #[.val (.long q1), .second, .val (.ref a), .val (.int pl), .val (.long mm), .second, .val (.long y), .second, .val (.int ce), .val (.int en), .val (.int po2), .val (.int y1)] [(.ref a)]))
                  refine own_st (fun _ k => XS.iinc X23.here hx rfl (hb hby own_d_prog_32_method_13_code_148) rfl (l' := #[.val (.long q1), .second, .val (.ref a), .val (.int pl), .val (.long mm), .second, .val (.long y), .second, .val (.int ce), .val (.int en), .val (.int (po2 + (-1 : Int32))), .val (.int y1)]) rfl k) ?_
                  show own_Gl _ _ _ _ _ _ _ (T23.setTop (mkF m 151 #[.val (.long q1), .second, .val (.ref a), .val (.int pl), .val (.long mm), .second, .val (.long y), .second, .val (.int ce), .val (.int en), .val (.int (po2 + (-1 : Int32))), .val (.int y1)] [(.ref a)]))
                  refine own_st (fun _ k => XS.iload X23.here hx rfl (hb hby own_d_prog_32_method_13_code_151) rfl k) ?_
                  show own_Gl _ _ _ _ _ _ _ (T23.setTop (mkF m 153 #[.val (.long q1), .second, .val (.ref a), .val (.int pl), .val (.long mm), .second, .val (.long y), .second, .val (.int ce), .val (.int en), .val (.int (po2 + (-1 : Int32))), .val (.int y1)] [(.int (po2 + (-1 : Int32))), (.ref a)]))
                  obtain ⟨T46, X46, e46, st46⟩ := getS2 X23 hx hZ hown (host := "") (Or.inl (hw _ (List.mem_of_getElem? (i := 28) rfl))) Via.refl e23 (S_ONES.ext fj23_3.2) (g := (mkF m 153 #[.val (.long q1), .second, .val (.ref a), .val (.int pl), .val (.long mm), .second, .val (.long y), .second, .val (.int ce), .val (.int en), .val (.int (po2 + (-1 : Int32))), .val (.int y1)] [(.int (po2 + (-1 : Int32))), (.ref a)])) rfl (hb hby own_d_prog_32_method_13_code_153)
                  refine own_st st46 ?_
                  show own_Gl _ _ _ _ _ _ _ (T46.setTop (mkF m 156 #[.val (.long q1), .second, .val (.ref a), .val (.int pl), .val (.long mm), .second, .val (.long y), .second, .val (.int ce), .val (.int en), .val (.int (po2 + (-1 : Int32))), .val (.int y1)] [(.ref oa), (.int (po2 + (-1 : Int32))), (.ref a)]))
                  refine own_st (fun _ k => XS.iload X46.here hx rfl (hb hby own_d_prog_32_method_13_code_156) rfl k) ?_
                  show own_Gl _ _ _ _ _ _ _ (T46.setTop (mkF m 158 #[.val (.long q1), .second, .val (.ref a), .val (.int pl), .val (.long mm), .second, .val (.long y), .second, .val (.int ce), .val (.int en), .val (.int (po2 + (-1 : Int32))), .val (.int y1)] [(.int y1), (.ref oa), (.int (po2 + (-1 : Int32))), (.ref a)]))
                  refine own_st (fun _ k => XS.bipush X46.here hx rfl (hb hby own_d_prog_32_method_13_code_158) k) ?_
                  show own_Gl _ _ _ _ _ _ _ (T46.setTop (mkF m 160 #[.val (.long q1), .second, .val (.ref a), .val (.int pl), .val (.long mm), .second, .val (.long y), .second, .val (.int ce), .val (.int en), .val (.int (po2 + (-1 : Int32))), .val (.int y1)] [(.int (100 : Int32)), (.int y1), (.ref oa), (.int (po2 + (-1 : Int32))), (.ref a)]))
                  refine own_st (fun _ k => iremM X46 hx rfl (hb hby own_d_prog_32_method_13_code_160) rfl (by decide) k) ?_
                  show own_Gl _ _ _ _ _ _ _ (T46.setTop (mkF m 161 #[.val (.long q1), .second, .val (.ref a), .val (.int pl), .val (.long mm), .second, .val (.long y), .second, .val (.int ce), .val (.int en), .val (.int (po2 + (-1 : Int32))), .val (.int y1)] [(.int (y1 % (100 : Int32))), (.ref oa), (.int (po2 + (-1 : Int32))), (.ref a)]))
                  obtain ⟨cl47, Ar47, qq47, Ss47, Nn47, Hh47, Gg47⟩ := id fj23_1
                  have hin47 : ¬ ((y1 % (100 : Int32)) < 0 ∨ cl47.slots.size ≤ ((y1 % (100 : Int32))).toNatClampNeg) := inb_of Ss47 (own_inI (own_rem100 hyy2) (by decide : (100 : Int32).toInt = ((100 : Nat) : Int)) hmod)
                  have hat47 : cl47.slots[((y1 % (100 : Int32))).toNatClampNeg]? = some (.int (own_ones (Y / 10 ^ j2 % 100))) := Hh47.at hin47 ((by rw [own_natI (own_rem100 hyy2)]; exact own_fl_get _ _ _ _ hmod))
                  refine own_st (X46.caload hx (j := (y1 % (100 : Int32))) (v := (.int (own_ones (Y / 10 ^ j2 % 100)))) (by rw [e46]; exact Ar47.1) (State.isArrayOf_alike hZ.alike Ar47.2.1) Ar47.2.2 hin47 hat47 (g := (mkF m 161 #[.val (.long q1), .second, .val (.ref a), .val (.int pl), .val (.long mm), .second, .val (.long y), .second, .val (.int ce), .val (.int en), .val (.int (po2 + (-1 : Int32))), .val (.int y1)] [(.int (y1 % (100 : Int32))), (.ref oa), (.int (po2 + (-1 : Int32))), (.ref a)])) rfl rfl (hb hby own_d_prog_32_method_13_code_161)) ?_
                  show own_Gl _ _ _ _ _ _ _ (T46.setTop (mkF m 162 #[.val (.long q1), .second, .val (.ref a), .val (.int pl), .val (.long mm), .second, .val (.long y), .second, .val (.int ce), .val (.int en), .val (.int (po2 + (-1 : Int32))), .val (.int y1)] [(.int (own_ones (Y / 10 ^ j2 % 100))), (.int (po2 + (-1 : Int32))), (.ref a)]))
                  obtain ⟨cl48, Ar48, qq48, Ss48, Nn48, Hh48, Gg48⟩ := id fj23_0
                  have hin48 : ¬ ((po2 + (-1 : Int32)) < 0 ∨ cl48.slots.size ≤ ((po2 + (-1 : Int32))).toNatClampNeg) := inb_of Ss48 (own_inI (own_decI hpo2 (by omega)) (by decide : (26 : Int32).toInt = ((26 : Nat) : Int)) (by omega))
                  obtain ⟨T48, h48, X48, e48, W48, st48⟩ := stC X46 hx hZ e46 Ar48 (j := (po2 + (-1 : Int32))) hin48 (g := (mkF m 162 #[.val (.long q1), .second, .val (.ref a), .val (.int pl), .val (.long mm), .second, .val (.long y), .second, .val (.int ce), .val (.int en), .val (.int (po2 + (-1 : Int32))), .val (.int y1)] [(.int (own_ones (Y / 10 ^ j2 % 100))), (.int (po2 + (-1 : Int32))), (.ref a)])) rfl rfl (hb hby own_d_prog_32_method_13_code_162)
                  have N48 := Fr.snoc X48 N23 g_a
                  refine own_st st48 ?_
                  have Zs49 : n0 ≤ h48.size := Nat.le_trans Zs23 (Keep.of_wr W48).1
                  have Vv48 := Arv.set Ar48 qq48 Ss48 Nn48 Hh48 Gg48 (fits_nar_char _) W48 ((la + N + dn - j2) - 1) ((own_natI (own_decI hpo2 (by omega)))) (by rw [own_fl_len]; omega)
                  rw [own_fl_set] at Vv48
                  have Vw48 : Arv Z h48 a k .char (26 : Int32) (own_fl 26 (fun q => if q = ((la + N + dn - j2) - 1) then (nar .char (own_ones (Y / 10 ^ j2 % 100))) else g2 q)) (.int (0 : Int32)) := Vv48
                  show own_Gl _ _ _ _ _ _ _ (T48.setTop (mkF m 163 #[.val (.long q1), .second, .val (.ref a), .val (.int pl), .val (.long mm), .second, .val (.long y), .second, .val (.int ce), .val (.int en), .val (.int (po2 + (-1 : Int32))), .val (.int y1)] []))
                  have hG3 : own_G Y C (la + N + dn + 3) (la + N + dn - j2 - 1) (fun q => if q = ((la + N + dn - j2) - 1) then (nar .char (own_ones (Y / 10 ^ j2 % 100))) else g2 q) := own_G_step (by omega) (by omega) hG2 _ (by rw [show la + N + dn + 3 - 3 - (la + N + dn - j2) = j2 by omega, own_ones_v _ hmod]; omega)
                  have hpo3 : (po2 + (-1 : Int32)).toInt = ((la + N + dn - j2 - 1 : Nat) : Int) := own_decI hpo2 (by omega)
                  refine own_st (fun _ k => XS.aloadN X48.here hx rfl (hb hby own_d_prog_32_method_13_code_163) rfl rfl k) ?_
                  show own_Gl _ _ _ _ _ _ _ (T48.setTop (mkF m 164 #[.val (.long q1), .second, .val (.ref a), .val (.int pl), .val (.long mm), .second, .val (.long y), .second, .val (.int ce), .val (.int en), .val (.int (po2 + (-1 : Int32))), .val (.int y1)] [(.ref a)]))
                  refine own_st (fun _ k => XS.iinc X48.here hx rfl (hb hby own_d_prog_32_method_13_code_164) rfl (l' := #[.val (.long q1), .second, .val (.ref a), .val (.int pl), .val (.long mm), .second, .val (.long y), .second, .val (.int ce), .val (.int en), .val (.int ((po2 + (-1 : Int32)) + (-1 : Int32))), .val (.int y1)]) rfl k) ?_
                  show own_Gl _ _ _ _ _ _ _ (T48.setTop (mkF m 167 #[.val (.long q1), .second, .val (.ref a), .val (.int pl), .val (.long mm), .second, .val (.long y), .second, .val (.int ce), .val (.int en), .val (.int ((po2 + (-1 : Int32)) + (-1 : Int32))), .val (.int y1)] [(.ref a)]))
                  refine own_st (fun _ k => XS.iload X48.here hx rfl (hb hby own_d_prog_32_method_13_code_167) rfl k) ?_
                  show own_Gl _ _ _ _ _ _ _ (T48.setTop (mkF m 169 #[.val (.long q1), .second, .val (.ref a), .val (.int pl), .val (.long mm), .second, .val (.long y), .second, .val (.int ce), .val (.int en), .val (.int ((po2 + (-1 : Int32)) + (-1 : Int32))), .val (.int y1)] [(.int ((po2 + (-1 : Int32)) + (-1 : Int32))), (.ref a)]))
                  have f51 := (fj23_3.wr W48 g_a)
                  obtain ⟨T50, X50, e50, st50⟩ := getS2 X48 hx hZ hown (host := "") (Or.inl (hw _ (List.mem_of_getElem? (i := 30) rfl))) Via.refl e48 (S_TENS.ext f51.2) (g := (mkF m 169 #[.val (.long q1), .second, .val (.ref a), .val (.int pl), .val (.long mm), .second, .val (.long y), .second, .val (.int ce), .val (.int en), .val (.int ((po2 + (-1 : Int32)) + (-1 : Int32))), .val (.int y1)] [(.int ((po2 + (-1 : Int32)) + (-1 : Int32))), (.ref a)])) rfl (hb hby own_d_prog_32_method_13_code_169)
                  refine own_st st50 ?_
                  show own_Gl _ _ _ _ _ _ _ (T50.setTop (mkF m 172 #[.val (.long q1), .second, .val (.ref a), .val (.int pl), .val (.long mm), .second, .val (.long y), .second, .val (.int ce), .val (.int en), .val (.int ((po2 + (-1 : Int32)) + (-1 : Int32))), .val (.int y1)] [(.ref ta), (.int ((po2 + (-1 : Int32)) + (-1 : Int32))), (.ref a)]))
                  refine own_st (fun _ k => XS.iload X50.here hx rfl (hb hby own_d_prog_32_method_13_code_172) rfl k) ?_
                  show own_Gl _ _ _ _ _ _ _ (T50.setTop (mkF m 174 #[.val (.long q1), .second, .val (.ref a), .val (.int pl), .val (.long mm), .second, .val (.long y), .second, .val (.int ce), .val (.int en), .val (.int ((po2 + (-1 : Int32)) + (-1 : Int32))), .val (.int y1)] [(.int y1), (.ref ta), (.int ((po2 + (-1 : Int32)) + (-1 : Int32))), (.ref a)]))
                  refine own_st (fun _ k => XS.bipush X50.here hx rfl (hb hby own_d_prog_32_method_13_code_174) k) ?_
                  show own_Gl _ _ _ _ _ _ _ (T50.setTop (mkF m 176 #[.val (.long q1), .second, .val (.ref a), .val (.int pl), .val (.long mm), .second, .val (.long y), .second, .val (.int ce), .val (.int en), .val (.int ((po2 + (-1 : Int32)) + (-1 : Int32))), .val (.int y1)] [(.int (100 : Int32)), (.int y1), (.ref ta), (.int ((po2 + (-1 : Int32)) + (-1 : Int32))), (.ref a)]))
                  refine own_st (fun _ k => iremM X50 hx rfl (hb hby own_d_prog_32_method_13_code_176) rfl (by decide) k) ?_
                  show own_Gl _ _ _ _ _ _ _ (T50.setTop (mkF m 177 #[.val (.long q1), .second, .val (.ref a), .val (.int pl), .val (.long mm), .second, .val (.long y), .second, .val (.int ce), .val (.int en), .val (.int ((po2 + (-1 : Int32)) + (-1 : Int32))), .val (.int y1)] [(.int (y1 % (100 : Int32))), (.ref ta), (.int ((po2 + (-1 : Int32)) + (-1 : Int32))), (.ref a)]))
                  have f52 := (fj23_2.other W48 (Ne.symm ne_a_ta))
                  obtain ⟨cl53, Ar53, qq53, Ss53, Nn53, Hh53, Gg53⟩ := id f52
                  have hin53 : ¬ ((y1 % (100 : Int32)) < 0 ∨ cl53.slots.size ≤ ((y1 % (100 : Int32))).toNatClampNeg) := inb_of Ss53 (own_inI (own_rem100 hyy2) (by decide : (100 : Int32).toInt = ((100 : Nat) : Int)) hmod)
                  have hat53 : cl53.slots[((y1 % (100 : Int32))).toNatClampNeg]? = some (.int (own_tens (Y / 10 ^ j2 % 100))) := Hh53.at hin53 ((by rw [own_natI (own_rem100 hyy2)]; exact own_fl_get _ _ _ _ hmod))
                  refine own_st (X50.caload hx (j := (y1 % (100 : Int32))) (v := (.int (own_tens (Y / 10 ^ j2 % 100)))) (by rw [e50]; exact Ar53.1) (State.isArrayOf_alike hZ.alike Ar53.2.1) Ar53.2.2 hin53 hat53 (g := (mkF m 177 #[.val (.long q1), .second, .val (.ref a), .val (.int pl), .val (.long mm), .second, .val (.long y), .second, .val (.int ce), .val (.int en), .val (.int ((po2 + (-1 : Int32)) + (-1 : Int32))), .val (.int y1)] [(.int (y1 % (100 : Int32))), (.ref ta), (.int ((po2 + (-1 : Int32)) + (-1 : Int32))), (.ref a)])) rfl rfl (hb hby own_d_prog_32_method_13_code_177)) ?_
                  show own_Gl _ _ _ _ _ _ _ (T50.setTop (mkF m 178 #[.val (.long q1), .second, .val (.ref a), .val (.int pl), .val (.long mm), .second, .val (.long y), .second, .val (.int ce), .val (.int en), .val (.int ((po2 + (-1 : Int32)) + (-1 : Int32))), .val (.int y1)] [(.int (own_tens (Y / 10 ^ j2 % 100))), (.int ((po2 + (-1 : Int32)) + (-1 : Int32))), (.ref a)]))
                  obtain ⟨cl54, Ar54, qq54, Ss54, Nn54, Hh54, Gg54⟩ := id Vw48
                  have hin54 : ¬ (((po2 + (-1 : Int32)) + (-1 : Int32)) < 0 ∨ cl54.slots.size ≤ (((po2 + (-1 : Int32)) + (-1 : Int32))).toNatClampNeg) := inb_of Ss54 (own_inI (own_decI hpo3 (by omega)) (by decide : (26 : Int32).toInt = ((26 : Nat) : Int)) (by omega))
                  obtain ⟨T54, h54, X54, e54, W54, st54⟩ := stC X50 hx hZ e50 Ar54 (j := ((po2 + (-1 : Int32)) + (-1 : Int32))) hin54 (g := (mkF m 178 #[.val (.long q1), .second, .val (.ref a), .val (.int pl), .val (.long mm), .second, .val (.long y), .second, .val (.int ce), .val (.int en), .val (.int ((po2 + (-1 : Int32)) + (-1 : Int32))), .val (.int y1)] [(.int (own_tens (Y / 10 ^ j2 % 100))), (.int ((po2 + (-1 : Int32)) + (-1 : Int32))), (.ref a)])) rfl rfl (hb hby own_d_prog_32_method_13_code_178)
                  have N54 := Fr.snoc X54 N48 g_a
                  refine own_st st54 ?_
                  have Zs55 : n0 ≤ h54.size := Nat.le_trans Zs49 (Keep.of_wr W54).1
                  have Vv54 := Arv.set Ar54 qq54 Ss54 Nn54 Hh54 Gg54 (fits_nar_char _) W54 ((la + N + dn - j2 - 1) - 1) ((own_natI (own_decI hpo3 (by omega)))) (by rw [own_fl_len]; omega)
                  rw [own_fl_set] at Vv54
                  have Vw54 : Arv Z h54 a k .char (26 : Int32) (own_fl 26 (fun q => if q = ((la + N + dn - j2 - 1) - 1) then (nar .char (own_tens (Y / 10 ^ j2 % 100))) else (fun q => if q = ((la + N + dn - j2) - 1) then (nar .char (own_ones (Y / 10 ^ j2 % 100))) else g2 q) q)) (.int (0 : Int32)) := Vv54
                  show own_Gl _ _ _ _ _ _ _ (T54.setTop (mkF m 179 #[.val (.long q1), .second, .val (.ref a), .val (.int pl), .val (.long mm), .second, .val (.long y), .second, .val (.int ce), .val (.int en), .val (.int ((po2 + (-1 : Int32)) + (-1 : Int32))), .val (.int y1)] []))
                  have hG4 : own_G Y C (la + N + dn + 3) (la + N + dn - j2 - 1 - 1) (fun q => if q = ((la + N + dn - j2 - 1) - 1) then (nar .char (own_tens (Y / 10 ^ j2 % 100))) else (fun q => if q = ((la + N + dn - j2) - 1) then (nar .char (own_ones (Y / 10 ^ j2 % 100))) else g2 q) q) := own_G_step (by omega) (by omega) hG3 _ (by rw [show la + N + dn + 3 - 3 - (la + N + dn - j2 - 1) = j2 + 1 by omega, own_tens_v _ hmod, ← own_pw]; omega)
                  refine own_st (fun _ k => XS.iload X54.here hx rfl (hb hby own_d_prog_32_method_13_code_179) rfl k) ?_
                  show own_Gl _ _ _ _ _ _ _ (T54.setTop (mkF m 181 #[.val (.long q1), .second, .val (.ref a), .val (.int pl), .val (.long mm), .second, .val (.long y), .second, .val (.int ce), .val (.int en), .val (.int ((po2 + (-1 : Int32)) + (-1 : Int32))), .val (.int y1)] [(.int y1)]))
                  refine own_st (fun _ k => XS.bipush X54.here hx rfl (hb hby own_d_prog_32_method_13_code_181) k) ?_
                  show own_Gl _ _ _ _ _ _ _ (T54.setTop (mkF m 183 #[.val (.long q1), .second, .val (.ref a), .val (.int pl), .val (.long mm), .second, .val (.long y), .second, .val (.int ce), .val (.int en), .val (.int ((po2 + (-1 : Int32)) + (-1 : Int32))), .val (.int y1)] [(.int (100 : Int32)), (.int y1)]))
                  refine own_st (fun _ k => XS.idiv X54.here hx rfl (hb hby own_d_prog_32_method_13_code_183) rfl (by decide) k) ?_
                  show own_Gl _ _ _ _ _ _ _ (T54.setTop (mkF m 184 #[.val (.long q1), .second, .val (.ref a), .val (.int pl), .val (.long mm), .second, .val (.long y), .second, .val (.int ce), .val (.int en), .val (.int ((po2 + (-1 : Int32)) + (-1 : Int32))), .val (.int y1)] [(.int (y1 / (100 : Int32)))]))
                  refine own_st (fun _ k => XS.istore X54.here hx rfl (hb hby own_d_prog_32_method_13_code_184) rfl (l' := #[.val (.long q1), .second, .val (.ref a), .val (.int pl), .val (.long mm), .second, .val (.long y), .second, .val (.int ce), .val (.int en), .val (.int ((po2 + (-1 : Int32)) + (-1 : Int32))), .val (.int (y1 / (100 : Int32)))]) rfl k) ?_
                  show own_Gl _ _ _ _ _ _ _ (T54.setTop (mkF m 186 #[.val (.long q1), .second, .val (.ref a), .val (.int pl), .val (.long mm), .second, .val (.long y), .second, .val (.int ce), .val (.int en), .val (.int ((po2 + (-1 : Int32)) + (-1 : Int32))), .val (.int (y1 / (100 : Int32)))] []))
                  refine own_st (fun _ k => XS.goto X54.here hx rfl (pc0 := 186) (pc' := 140) rfl (hb hby own_d_prog_32_method_13_code_186) (by decide) (by decide) k) ?_
                  show own_Gl _ _ _ _ _ _ _ (T54.setTop (mkF m 140 #[.val (.long q1), .second, .val (.ref a), .val (.int pl), .val (.long mm), .second, .val (.long y), .second, .val (.int ce), .val (.int en), .val (.int ((po2 + (-1 : Int32)) + (-1 : Int32))), .val (.int (y1 / (100 : Int32)))] []))
                  have K56 : Keep h0 h54 [a] := ((Kj23.wr W48 (Or.inl (List.mem_of_getElem? (i := 0) rfl))).wr W54 (Or.inl (List.mem_of_getElem? (i := 0) rfl)))
                  have f57 := ((fj23_1.other W48 (Ne.symm ne_a_oa)).other W54 (Ne.symm ne_a_oa))
                  have f58 := (f52.other W54 (Ne.symm ne_a_ta))
                  have f59 := (f51.wr W54 g_a)
                  show own_Gl _ _ _ _ _ _ _ (T54.setTop (mkF m 140 #[.val (.long q1), .second, .val (.ref a), .val (.int pl), .val (.long mm), .second, .val (.long y), .second, .val (.int ce), .val (.int en), .val (.int ((po2 + (-1 : Int32)) + (-1 : Int32))), .val (.int (y1 / (100 : Int32)))] []))
                  exact ih23 _ (by omega) T54 _ N54 X54 _ e54 ((y1 / (100 : Int32))) (((po2 + (-1 : Int32)) + (-1 : Int32))) ((fun q => if q = ((la + N + dn - j2 - 1) - 1) then (nar .char (own_tens (Y / 10 ^ j2 % 100))) else (fun q => if q = ((la + N + dn - j2) - 1) then (nar .char (own_ones (Y / 10 ^ j2 % 100))) else g2 q) q)) ((j2 + 2)) Zs55 K56 Vw54 f57 f58 f59 (by rw [own_div100 hyy2, own_pw2]) (by rw [own_decI hpo3 (by omega)]; omega) (own_jlt2 hd3 hj2 hge100) (by rw [show la + N + dn - (j2 + 2) = la + N + dn - j2 - 1 - 1 by omega]; exact hG4) rfl
            show own_Gl _ _ _ _ _ _ _ (T16.setTop (mkF m 140 #[.val (.long q1), .second, .val (.ref a), .val (.int pl), .val (.long mm), .second, .val (.long y), .second, .val (.int ce), .val (.int en), .val (.int po), .val (.int (y.toInt32))] []))
            exact J140_23 _ T16 _ N16 X16 _ e16 ((y.toInt32)) (po) (g) (j) Zs16 Kj16 fj16_0 fj16_1 fj16_2 fj16_3 (own_l2i hyy hc102) hpo hj hG rfl
      have K60 : Keep h0 h14 [a] := ((((Keep.refl h0 [a]).wr W6 (Or.inl (List.mem_of_getElem? (i := 0) rfl))).wr W12 (Or.inl (List.mem_of_getElem? (i := 0) rfl))).wr W14 (Or.inl (List.mem_of_getElem? (i := 0) rfl)))
      have f61 := (((V_oa.other W6 (Ne.symm ne_a_oa)).other W12 (Ne.symm ne_a_oa)).other W14 (Ne.symm ne_a_oa))
      have f62 := ((f10.other W12 (Ne.symm ne_a_ta)).other W14 (Ne.symm ne_a_ta))
      have f63 := ((f9.wr W12 g_a).wr W14 g_a)
      show own_Gl _ _ _ _ _ _ _ (T14.setTop (mkF m 96 #[.val (.long q1), .second, .val (.ref a), .val (.int pl), .val (.long mm), .second, .val (.long yu), .second, .val (.int ce), .val (.int en), .val (.int (en - (3 : Int32))), .unset] []))
      exact J96_16 _ T14 _ N14 X14 _ e14 (yu) ((en - (3 : Int32))) ((fun q => if q = (la + N + dn + 3 - 3) then (nar .char (46 : Int32)) else (fun q => if q = (la + N + dn + 3 - 2) then (nar .char (own_tens C)) else (fun q => if q = (la + N + dn + 3 - 1) then (nar .char (own_ones C)) else (fun _ => (0 : Int32)) q) q) q)) (0) Zs15 K60 Vw14 f61 f62 f63 (by show yu.toInt = ((Y / 1 : Nat) : Int); rw [Nat.div_one]; exact hy) (by show (en - (3 : Int32)).toInt = _; rw [own_subI hen (by decide : (3 : Int32).toInt = ((3 : Nat) : Int)) (by omega)]; omega) (by omega) (own_G_init Y C (la + N + dn + 3) (by omega) hC) rfl
    refine own_st (fun _ k => XS.iloadN X1.here hx rfl (hb hby own_d_prog_32_method_13_code_33) rfl k) ?_
    show own_Gl _ _ _ _ _ _ _ (T1.setTop (mkF m 34 #[.val (.long q1), .second, .val (.ref a), .val (.int pl), .val (.long mm), .second, .val (.long yu), .second, .val (.int ce), .unset, .unset, .unset] [(.int pl)]))
    refine own_st (fun _ k => XS.lloadN X1.here hx rfl (hb hby own_d_prog_32_method_13_code_34) rfl k) ?_
    show own_Gl _ _ _ _ _ _ _ (T1.setTop (mkF m 35 #[.val (.long q1), .second, .val (.ref a), .val (.int pl), .val (.long mm), .second, .val (.long yu), .second, .val (.int ce), .unset, .unset, .unset] [(.long q1), (.int pl)]))
    refine own_st (fun _ k => XS.lconst X1.here hx rfl (hb hby own_d_prog_32_method_13_code_35) k) ?_
    show own_Gl _ _ _ _ _ _ _ (T1.setTop (mkF m 36 #[.val (.long q1), .second, .val (.ref a), .val (.int pl), .val (.long mm), .second, .val (.long yu), .second, .val (.int ce), .unset, .unset, .unset] [(.long (0 : Int64)), (.long q1), (.int pl)]))
    refine own_st (fun _ k => XS.lcmp X1.here hx rfl (hb hby own_d_prog_32_method_13_code_36) rfl k) ?_
    show own_Gl _ _ _ _ _ _ _ (T1.setTop (mkF m 37 #[.val (.long q1), .second, .val (.ref a), .val (.int pl), .val (.long mm), .second, .val (.long yu), .second, .val (.int ce), .unset, .unset, .unset] [(.int (lcmpW q1 (0 : Int64))), (.int pl)]))
    by_cases hc37 : q1 < (0 : Int64)
    · refine own_st (fun _ k => XS.ifNo X1.here hx rfl (hb hby own_d_prog_32_method_13_code_37) rfl ((if0 _ _).trans (tlt ((lw_lt _ _).mpr hc37)).2.1) k) ?_
      show own_Gl _ _ _ _ _ _ _ (T1.setTop (mkF m 40 #[.val (.long q1), .second, .val (.ref a), .val (.int pl), .val (.long mm), .second, .val (.long yu), .second, .val (.int ce), .unset, .unset, .unset] [(.int pl)]))
      refine own_st (fun _ k => XS.iconst X1.here hx rfl (hb hby own_d_prog_32_method_13_code_40) k) ?_
      show own_Gl _ _ _ _ _ _ _ (T1.setTop (mkF m 41 #[.val (.long q1), .second, .val (.ref a), .val (.int pl), .val (.long mm), .second, .val (.long yu), .second, .val (.int ce), .unset, .unset, .unset] [(.int (1 : Int32)), (.int pl)]))
      refine own_st (fun _ k => XS.goto X1.here hx rfl (pc0 := 41) (pc' := 45) rfl (hb hby own_d_prog_32_method_13_code_41) (by decide) (by decide) k) ?_
      show own_Gl _ _ _ _ _ _ _ (T1.setTop (mkF m 45 #[.val (.long q1), .second, .val (.ref a), .val (.int pl), .val (.long mm), .second, .val (.long yu), .second, .val (.int ce), .unset, .unset, .unset] [(.int (1 : Int32)), (.int pl)]))
      show own_Gl _ _ _ _ _ _ _ (T1.setTop (mkF m 45 #[.val (.long q1), .second, .val (.ref a), .val (.int pl), .val (.long mm), .second, .val (.long yu), .second, .val (.int ce), .unset, .unset, .unset] [(.int (1 : Int32)), (.int pl)]))
      exact J45_2 T1 _ N1 X1 e1 ((1 : Int32)) (by rw [hN.1 hc37]; decide)
    · refine own_st (fun _ k => XS.ifYes X1.here hx rfl (pc0 := 37) (pc' := 44) rfl (hb hby own_d_prog_32_method_13_code_37) rfl ((if0 _ _).trans (flt (mt (lw_lt _ _).mp hc37)).2.1) (by decide) (by decide) k) ?_
      show own_Gl _ _ _ _ _ _ _ (T1.setTop (mkF m 44 #[.val (.long q1), .second, .val (.ref a), .val (.int pl), .val (.long mm), .second, .val (.long yu), .second, .val (.int ce), .unset, .unset, .unset] [(.int pl)]))
      refine own_st (fun _ k => XS.iconst X1.here hx rfl (hb hby own_d_prog_32_method_13_code_44) k) ?_
      show own_Gl _ _ _ _ _ _ _ (T1.setTop (mkF m 45 #[.val (.long q1), .second, .val (.ref a), .val (.int pl), .val (.long mm), .second, .val (.long yu), .second, .val (.int ce), .unset, .unset, .unset] [(.int (0 : Int32)), (.int pl)]))
      show own_Gl _ _ _ _ _ _ _ (T1.setTop (mkF m 45 #[.val (.long q1), .second, .val (.ref a), .val (.int pl), .val (.long mm), .second, .val (.long yu), .second, .val (.int ce), .unset, .unset, .unset] [(.int (0 : Int32)), (.int pl)]))
      exact J45_2 T1 _ N1 X1 e1 ((0 : Int32)) (by rw [hN.2 hc37]; decide)
  refine own_st (fun _ k => XS.lloadN X0.here hx rfl (hb hby own_d_prog_32_method_13_code_0) rfl k) ?_
  show own_Gl _ _ _ _ _ _ _ (s₁.setTop (mkF m 1 #[.val (.long q1), .second, .val (.ref a), .val (.int pl), .unset, .unset, .unset, .unset, .unset, .unset, .unset, .unset] [(.long q1)]))
  refine own_st (fun _ k => XS.lconst X0.here hx rfl (hb hby own_d_prog_32_method_13_code_1) k) ?_
  show own_Gl _ _ _ _ _ _ _ (s₁.setTop (mkF m 2 #[.val (.long q1), .second, .val (.ref a), .val (.int pl), .unset, .unset, .unset, .unset, .unset, .unset, .unset, .unset] [(.long (0 : Int64)), (.long q1)]))
  refine own_st (fun _ k => XS.lcmp X0.here hx rfl (hb hby own_d_prog_32_method_13_code_2) rfl k) ?_
  show own_Gl _ _ _ _ _ _ _ (s₁.setTop (mkF m 3 #[.val (.long q1), .second, .val (.ref a), .val (.int pl), .unset, .unset, .unset, .unset, .unset, .unset, .unset, .unset] [(.int (lcmpW q1 (0 : Int64)))]))
  by_cases hc3 : q1 < (0 : Int64)
  · refine own_st (fun _ k => XS.ifNo X0.here hx rfl (hb hby own_d_prog_32_method_13_code_3) rfl ((if0 _ _).trans (tlt ((lw_lt _ _).mpr hc3)).2.1) k) ?_
    show own_Gl _ _ _ _ _ _ _ (s₁.setTop (mkF m 6 #[.val (.long q1), .second, .val (.ref a), .val (.int pl), .unset, .unset, .unset, .unset, .unset, .unset, .unset, .unset] []))
    refine own_st (fun _ k => XS.lloadN X0.here hx rfl (hb hby own_d_prog_32_method_13_code_6) rfl k) ?_
    show own_Gl _ _ _ _ _ _ _ (s₁.setTop (mkF m 7 #[.val (.long q1), .second, .val (.ref a), .val (.int pl), .unset, .unset, .unset, .unset, .unset, .unset, .unset, .unset] [(.long q1)]))
    refine own_st (fun _ k => XS.goto X0.here hx rfl (pc0 := 7) (pc' := 12) rfl (hb hby own_d_prog_32_method_13_code_7) (by decide) (by decide) k) ?_
    show own_Gl _ _ _ _ _ _ _ (s₁.setTop (mkF m 12 #[.val (.long q1), .second, .val (.ref a), .val (.int pl), .unset, .unset, .unset, .unset, .unset, .unset, .unset, .unset] [(.long q1)]))
    show own_Gl _ _ _ _ _ _ _ (s₁.setTop (mkF m 12 #[.val (.long q1), .second, .val (.ref a), .val (.int pl), .unset, .unset, .unset, .unset, .unset, .unset, .unset, .unset] [(.long q1)]))
    exact J12_1 s₁ _ N0 X0 e0 (q1) (own_m1 _ hA hc3)
  · refine own_st (fun _ k => XS.ifYes X0.here hx rfl (pc0 := 3) (pc' := 10) rfl (hb hby own_d_prog_32_method_13_code_3) rfl ((if0 _ _).trans (flt (mt (lw_lt _ _).mp hc3)).2.1) (by decide) (by decide) k) ?_
    show own_Gl _ _ _ _ _ _ _ (s₁.setTop (mkF m 10 #[.val (.long q1), .second, .val (.ref a), .val (.int pl), .unset, .unset, .unset, .unset, .unset, .unset, .unset, .unset] []))
    refine own_st (fun _ k => XS.lloadN X0.here hx rfl (hb hby own_d_prog_32_method_13_code_10) rfl k) ?_
    show own_Gl _ _ _ _ _ _ _ (s₁.setTop (mkF m 11 #[.val (.long q1), .second, .val (.ref a), .val (.int pl), .unset, .unset, .unset, .unset, .unset, .unset, .unset, .unset] [(.long q1)]))
    refine own_st (fun _ k => XS.lneg X0.here hx rfl (hb hby own_d_prog_32_method_13_code_11) rfl k) ?_
    show own_Gl _ _ _ _ _ _ _ (s₁.setTop (mkF m 12 #[.val (.long q1), .second, .val (.ref a), .val (.int pl), .unset, .unset, .unset, .unset, .unset, .unset, .unset, .unset] [(.long (-q1))]))
    show own_Gl _ _ _ _ _ _ _ (s₁.setTop (mkF m 12 #[.val (.long q1), .second, .val (.ref a), .val (.int pl), .unset, .unset, .unset, .unset, .unset, .unset, .unset, .unset] [(.long (-q1))]))
    exact J12_1 s₁ _ N0 X0 e0 ((-q1)) (own_m2 _ hA hc3)
theorem own_d_method_2_code_0 : decode method_2_code 0 = .ok (.iload_n 0, 1) := by decide +kernel
theorem own_d_method_2_code_1 : decode method_2_code 1 = .ok (.ifCond .ne 12, 3) := by decide +kernel
theorem own_d_method_2_code_4 : decode method_2_code 4 = .ok (.bipush 48, 2) := by decide +kernel
theorem own_d_method_2_code_6 : decode method_2_code 6 = .ok (.iload_n 1, 1) := by decide +kernel
theorem own_d_method_2_code_7 : decode method_2_code 7 = .ok (.bipush 10, 2) := by decide +kernel
theorem own_d_method_2_code_9 : decode method_2_code 9 = .ok (.irem, 1) := by decide +kernel
theorem own_d_method_2_code_10 : decode method_2_code 10 = .ok (.iadd, 1) := by decide +kernel
theorem own_d_method_2_code_11 : decode method_2_code 11 = .ok (.i2c, 1) := by decide +kernel
theorem own_d_method_2_code_12 : decode method_2_code 12 = .ok (.ireturn, 1) := by decide +kernel
theorem own_d_method_2_code_13 : decode method_2_code 13 = .ok (.iload_n 0, 1) := by decide +kernel
theorem own_d_method_2_code_14 : decode method_2_code 14 = .ok (.iconst 1, 1) := by decide +kernel
theorem own_d_method_2_code_15 : decode method_2_code 15 = .ok (.if_icmp .ne 12, 3) := by decide +kernel
theorem own_d_method_2_code_18 : decode method_2_code 18 = .ok (.bipush 48, 2) := by decide +kernel
theorem own_d_method_2_code_20 : decode method_2_code 20 = .ok (.iload_n 1, 1) := by decide +kernel
theorem own_d_method_2_code_21 : decode method_2_code 21 = .ok (.bipush 10, 2) := by decide +kernel
theorem own_d_method_2_code_23 : decode method_2_code 23 = .ok (.idiv, 1) := by decide +kernel
theorem own_d_method_2_code_24 : decode method_2_code 24 = .ok (.iadd, 1) := by decide +kernel
theorem own_d_method_2_code_25 : decode method_2_code 25 = .ok (.i2c, 1) := by decide +kernel
theorem own_d_method_2_code_26 : decode method_2_code 26 = .ok (.ireturn, 1) := by decide +kernel
theorem own_d_method_2_code_27 : decode method_2_code 27 = .ok (.iload_n 0, 1) := by decide +kernel
theorem own_d_method_2_code_28 : decode method_2_code 28 = .ok (.iconst 2, 1) := by decide +kernel
theorem own_d_method_2_code_29 : decode method_2_code 29 = .ok (.if_icmp .ne 6, 3) := by decide +kernel
theorem own_d_method_2_code_32 : decode method_2_code 32 = .ok (.bipush 46, 2) := by decide +kernel
theorem own_d_method_2_code_34 : decode method_2_code 34 = .ok (.ireturn, 1) := by decide +kernel
theorem own_d_method_2_code_35 : decode method_2_code 35 = .ok (.iload_n 0, 1) := by decide +kernel
theorem own_d_method_2_code_36 : decode method_2_code 36 = .ok (.iconst 3, 1) := by decide +kernel
theorem own_d_method_2_code_37 : decode method_2_code 37 = .ok (.isub, 1) := by decide +kernel
theorem own_d_method_2_code_38 : decode method_2_code 38 = .ok (.iload 4, 2) := by decide +kernel
theorem own_d_method_2_code_40 : decode method_2_code 40 = .ok (.if_icmp .ge 21, 3) := by decide +kernel
theorem own_d_method_2_code_43 : decode method_2_code 43 = .ok (.bipush 48, 2) := by decide +kernel
theorem own_d_method_2_code_45 : decode method_2_code 45 = .ok (.lload_n 2, 1) := by decide +kernel
theorem own_d_method_2_code_46 : decode method_2_code 46 = .ok (.aload 5, 2) := by decide +kernel
theorem own_d_method_2_code_48 : decode method_2_code 48 = .ok (.iload_n 0, 1) := by decide +kernel
theorem own_d_method_2_code_49 : decode method_2_code 49 = .ok (.iconst 3, 1) := by decide +kernel
theorem own_d_method_2_code_50 : decode method_2_code 50 = .ok (.isub, 1) := by decide +kernel
theorem own_d_method_2_code_51 : decode method_2_code 51 = .ok (.laload, 1) := by decide +kernel
theorem own_d_method_2_code_52 : decode method_2_code 52 = .ok (.ldiv, 1) := by decide +kernel
theorem own_d_method_2_code_53 : decode method_2_code 53 = .ok (.ldc2_w 7, 3) := by decide +kernel
theorem own_d_method_2_code_56 : decode method_2_code 56 = .ok (.lrem, 1) := by decide +kernel
theorem own_d_method_2_code_57 : decode method_2_code 57 = .ok (.l2i, 1) := by decide +kernel
theorem own_d_method_2_code_58 : decode method_2_code 58 = .ok (.iadd, 1) := by decide +kernel
theorem own_d_method_2_code_59 : decode method_2_code 59 = .ok (.i2c, 1) := by decide +kernel
theorem own_d_method_2_code_60 : decode method_2_code 60 = .ok (.ireturn, 1) := by decide +kernel
theorem own_d_method_2_code_61 : decode method_2_code 61 = .ok (.bipush 45, 2) := by decide +kernel
theorem own_d_method_2_code_63 : decode method_2_code 63 = .ok (.ireturn, 1) := by decide +kernel
theorem own_ef_own_exp (m : MethodId) (x0 : Int32) (x1 : Int32) (x2 : Int64) (x3 : Int32) (x4 : Addr) : entryFrame m #[(.int x0), (.int x1), (.long x2), (.int x3), (.ref x4)] 6 = mkF m 0 #[.val (.int x0), .val (.int x1), .val (.long x2), .second, .val (.int x3), .val (.ref x4)] [] := by first | (simp [entryFrame, mkF, argsToLocals, Value.category]; done) | rfl
def own_Q_own_exp (Z : State) (pk : Int32) (pc : Int32) (q1 : Int64) (pd : Int32) (pa : Addr) (kp : ClassId) (Y : Nat) (C : Nat) (dn : Nat) (kn : Nat) (h0 : Heap) (n0 : Nat) (v : Option Value) (h : Heap) (L : List Loc) : Prop := ∃ (w : Int32), (v = some (.int w)) ∧ (Fr n0 L) ∧ (h = h0) ∧ (w.toInt = own_ev Y C dn kn)
theorem own_pn441892570 : plainName "org/benli/core/MoneyToCharsPinLaw" = true := by first | (simp [plainName, overriddenIn]; done) | decide +kernel
set_option maxRecDepth 65536 in
set_option maxHeartbeats 40000000 in
theorem own_exp (l : Launch) (Z : State) (a0 : Array Value) (hw : ∀ d ∈ tables_1, d.before a0 Z = true) (ws : List Jvm.Cond) (pk : Int32) (pc : Int32) (q1 : Int64) (pd : Int32) (pa : Addr) (kp : ClassId) (Y : Nat) (C : Nat) (dn : Nat) (kn : Nat) (h0 : Heap) (n0 : Nat) (Z0 : n0 ≤ h0.size) (V_pa : Arv Z h0 pa kp .long (18 : Int32) own_pls (.long (0 : Int64))) (hk : pk.toInt = (kn : Int)) (hc : pc.toInt = (C : Int) ∧ C < 100) (hy : q1.toInt = (Y : Int)) (hd : pd.toInt = (dn : Int) ∧ dn ≤ 17) :
    MetFree l (⟨"org/benli/core/MoneyToCharsPinLaw", "expect", "(IIJI[J)C"⟩ : MethodName) (head1 (Jvm.Cond.code (⟨"org/benli/core/MoneyToCharsPinLaw", "expect", "(IIJI[J)C"⟩ : MethodName) method_2_code 6 (some .char) :: ws) ({ frames := 0, cells := 0, slots := 0, locals := 0 } : Room)) (fun xa xU => xa = #[(.int pk), (.int pc), (.long q1), (.int pd), (.ref pa)] ∧ Z.Warmed39 xU.vm ∧ xU.heap = h0) (fun _ _ _ _ _ => True) (fun _ xU xo xV => ∃ v L, xo = .returned v ∧ own_Q_own_exp Z pk pc q1 pd pa kp Y C dn kn h0 n0 v xV.heap L ∧ FrameEnd xU xo xV L ({ frames := 0, cells := 0, slots := 0, locals := 0 } : Room).cells ({ frames := 0, cells := 0, slots := 0, locals := 0 } : Room).slots) := by
  refine MetFree.of_bodySF (plainFor_of_name own_pn441892570) hisR ?_
  intro p e s m args below meth c s₁ Bd hml0 hP hK
  obtain ⟨rfl, hZ, hh⟩ := hP
  have hx := Bd.exec
  have hby := Bd.bytes
  have hlk := Bd.notSynchronized
  have hret := Bd.returns
  have hml : c.maxLocals = 6 := hml0
  have hown : s.vm.findClass "org/benli/core/MoneyToCharsPinLaw" = some m.cls := findClass_of_methodNamed Bd.named
  have hnm := (name_of_methodNamed Bd.named Bd.method).1
  have X0 : Stand p l e ({ frames := 0, cells := 0, slots := 0, locals := 0 } : Room) s m #[(.int pk), (.int pc), (.long q1), (.int pd), (.ref pa)] below meth c s₁ [] 0 0 := Stand.of_body Bd
  have e0 : s₁.heap = h0 := by rw [← hh, Bd.state]; rfl
  have N0 := Fr.nil n0
  show own_Gl p e below s (own_Q_own_exp Z pk pc q1 pd pa kp Y C dn kn h0 n0) ({ frames := 0, cells := 0, slots := 0, locals := 0 } : Room).cells ({ frames := 0, cells := 0, slots := 0, locals := 0 } : Room).slots _
  refine own_cast (own_ef_own_exp m pk pc q1 pd pa) ?_
  show own_Gl _ _ _ _ _ _ _ (s₁.setTop (mkF m 0 #[.val (.int pk), .val (.int pc), .val (.long q1), .second, .val (.int pd), .val (.ref pa)] []))
  refine own_st (fun _ k => XS.iloadN X0.here hx rfl (hb hby own_d_method_2_code_0) rfl k) ?_
  show own_Gl _ _ _ _ _ _ _ (s₁.setTop (mkF m 1 #[.val (.int pk), .val (.int pc), .val (.long q1), .second, .val (.int pd), .val (.ref pa)] [(.int pk)]))
  by_cases hc1 : pk = (0 : Int32)
  · have hz0 : kn = 0 := own_knz hk hc1 (by decide)
    refine own_st (fun _ k => XS.ifNo X0.here hx rfl (hb hby own_d_method_2_code_1) rfl ((if0 _ _).trans (teq hc1).2) k) ?_
    show own_Gl _ _ _ _ _ _ _ (s₁.setTop (mkF m 4 #[.val (.int pk), .val (.int pc), .val (.long q1), .second, .val (.int pd), .val (.ref pa)] []))
    refine own_st (fun _ k => XS.bipush X0.here hx rfl (hb hby own_d_method_2_code_4) k) ?_
    show own_Gl _ _ _ _ _ _ _ (s₁.setTop (mkF m 6 #[.val (.int pk), .val (.int pc), .val (.long q1), .second, .val (.int pd), .val (.ref pa)] [(.int (48 : Int32))]))
    refine own_st (fun _ k => XS.iloadN X0.here hx rfl (hb hby own_d_method_2_code_6) rfl k) ?_
    show own_Gl _ _ _ _ _ _ _ (s₁.setTop (mkF m 7 #[.val (.int pk), .val (.int pc), .val (.long q1), .second, .val (.int pd), .val (.ref pa)] [(.int pc), (.int (48 : Int32))]))
    refine own_st (fun _ k => XS.bipush X0.here hx rfl (hb hby own_d_method_2_code_7) k) ?_
    show own_Gl _ _ _ _ _ _ _ (s₁.setTop (mkF m 9 #[.val (.int pk), .val (.int pc), .val (.long q1), .second, .val (.int pd), .val (.ref pa)] [(.int (10 : Int32)), (.int pc), (.int (48 : Int32))]))
    refine own_st (fun _ k => iremM X0 hx rfl (hb hby own_d_method_2_code_9) rfl (by decide) k) ?_
    show own_Gl _ _ _ _ _ _ _ (s₁.setTop (mkF m 10 #[.val (.int pk), .val (.int pc), .val (.long q1), .second, .val (.int pd), .val (.ref pa)] [(.int (pc % (10 : Int32))), (.int (48 : Int32))]))
    refine own_st (fun _ k => XS.iadd X0.here hx rfl (hb hby own_d_method_2_code_10) rfl k) ?_
    show own_Gl _ _ _ _ _ _ _ (s₁.setTop (mkF m 11 #[.val (.int pk), .val (.int pc), .val (.long q1), .second, .val (.int pd), .val (.ref pa)] [(.int ((48 : Int32) + (pc % (10 : Int32))))]))
    refine own_st (fun _ k => XS.i2c X0.here hx rfl (hb hby own_d_method_2_code_11) rfl k) ?_
    show own_Gl _ _ _ _ _ _ _ (s₁.setTop (mkF m 12 #[.val (.int pk), .val (.int pc), .val (.long q1), .second, .val (.int pd), .val (.ref pa)] [(.int (((48 : Int32) + (pc % (10 : Int32))).toUInt32.toUInt16.toUInt32.toInt32))]))
    exact own_retN X0 hx hlk (t := .char) hret (by simp) (hb hby own_d_method_2_code_12) e0 ⟨_, rfl, N0, rfl, by rw [own_ev, if_pos hz0]; exact own_x0 hc.1 hc.2⟩ (by decide) (by decide)
  · have hz0 : ¬ kn = 0 := fun z => hc1 (own_eqII hk (by rw [z]; decide))
    refine own_st (fun _ k => XS.ifYes X0.here hx rfl (pc0 := 1) (pc' := 13) rfl (hb hby own_d_method_2_code_1) rfl ((if0 _ _).trans (feq hc1).2) (by decide) (by decide) k) ?_
    show own_Gl _ _ _ _ _ _ _ (s₁.setTop (mkF m 13 #[.val (.int pk), .val (.int pc), .val (.long q1), .second, .val (.int pd), .val (.ref pa)] []))
    refine own_st (fun _ k => XS.iloadN X0.here hx rfl (hb hby own_d_method_2_code_13) rfl k) ?_
    show own_Gl _ _ _ _ _ _ _ (s₁.setTop (mkF m 14 #[.val (.int pk), .val (.int pc), .val (.long q1), .second, .val (.int pd), .val (.ref pa)] [(.int pk)]))
    refine own_st (fun _ k => XS.iconst X0.here hx rfl (hb hby own_d_method_2_code_14) k) ?_
    show own_Gl _ _ _ _ _ _ _ (s₁.setTop (mkF m 15 #[.val (.int pk), .val (.int pc), .val (.long q1), .second, .val (.int pd), .val (.ref pa)] [(.int (1 : Int32)), (.int pk)]))
    by_cases hc15 : pk = (1 : Int32)
    · have hz1 : kn = 1 := own_knz hk hc15 (by decide)
      refine own_st (fun _ k => XS.icmpNo X0.here hx rfl (hb hby own_d_method_2_code_15) rfl (teq hc15).2 k) ?_
      show own_Gl _ _ _ _ _ _ _ (s₁.setTop (mkF m 18 #[.val (.int pk), .val (.int pc), .val (.long q1), .second, .val (.int pd), .val (.ref pa)] []))
      refine own_st (fun _ k => XS.bipush X0.here hx rfl (hb hby own_d_method_2_code_18) k) ?_
      show own_Gl _ _ _ _ _ _ _ (s₁.setTop (mkF m 20 #[.val (.int pk), .val (.int pc), .val (.long q1), .second, .val (.int pd), .val (.ref pa)] [(.int (48 : Int32))]))
      refine own_st (fun _ k => XS.iloadN X0.here hx rfl (hb hby own_d_method_2_code_20) rfl k) ?_
      show own_Gl _ _ _ _ _ _ _ (s₁.setTop (mkF m 21 #[.val (.int pk), .val (.int pc), .val (.long q1), .second, .val (.int pd), .val (.ref pa)] [(.int pc), (.int (48 : Int32))]))
      refine own_st (fun _ k => XS.bipush X0.here hx rfl (hb hby own_d_method_2_code_21) k) ?_
      show own_Gl _ _ _ _ _ _ _ (s₁.setTop (mkF m 23 #[.val (.int pk), .val (.int pc), .val (.long q1), .second, .val (.int pd), .val (.ref pa)] [(.int (10 : Int32)), (.int pc), (.int (48 : Int32))]))
      refine own_st (fun _ k => XS.idiv X0.here hx rfl (hb hby own_d_method_2_code_23) rfl (by decide) k) ?_
      show own_Gl _ _ _ _ _ _ _ (s₁.setTop (mkF m 24 #[.val (.int pk), .val (.int pc), .val (.long q1), .second, .val (.int pd), .val (.ref pa)] [(.int (pc / (10 : Int32))), (.int (48 : Int32))]))
      refine own_st (fun _ k => XS.iadd X0.here hx rfl (hb hby own_d_method_2_code_24) rfl k) ?_
      show own_Gl _ _ _ _ _ _ _ (s₁.setTop (mkF m 25 #[.val (.int pk), .val (.int pc), .val (.long q1), .second, .val (.int pd), .val (.ref pa)] [(.int ((48 : Int32) + (pc / (10 : Int32))))]))
      refine own_st (fun _ k => XS.i2c X0.here hx rfl (hb hby own_d_method_2_code_25) rfl k) ?_
      show own_Gl _ _ _ _ _ _ _ (s₁.setTop (mkF m 26 #[.val (.int pk), .val (.int pc), .val (.long q1), .second, .val (.int pd), .val (.ref pa)] [(.int (((48 : Int32) + (pc / (10 : Int32))).toUInt32.toUInt16.toUInt32.toInt32))]))
      exact own_retN X0 hx hlk (t := .char) hret (by simp) (hb hby own_d_method_2_code_26) e0 ⟨_, rfl, N0, rfl, by rw [own_ev, if_neg hz0, if_pos hz1]; exact own_x1 hc.1 hc.2⟩ (by decide) (by decide)
    · have hz1 : ¬ kn = 1 := fun z => hc15 (own_eqII hk (by rw [z]; decide))
      refine own_st (fun _ k => XS.icmpYes X0.here hx rfl (pc0 := 15) (pc' := 27) rfl (hb hby own_d_method_2_code_15) rfl (feq hc15).2 (by decide) (by decide) k) ?_
      show own_Gl _ _ _ _ _ _ _ (s₁.setTop (mkF m 27 #[.val (.int pk), .val (.int pc), .val (.long q1), .second, .val (.int pd), .val (.ref pa)] []))
      refine own_st (fun _ k => XS.iloadN X0.here hx rfl (hb hby own_d_method_2_code_27) rfl k) ?_
      show own_Gl _ _ _ _ _ _ _ (s₁.setTop (mkF m 28 #[.val (.int pk), .val (.int pc), .val (.long q1), .second, .val (.int pd), .val (.ref pa)] [(.int pk)]))
      refine own_st (fun _ k => XS.iconst X0.here hx rfl (hb hby own_d_method_2_code_28) k) ?_
      show own_Gl _ _ _ _ _ _ _ (s₁.setTop (mkF m 29 #[.val (.int pk), .val (.int pc), .val (.long q1), .second, .val (.int pd), .val (.ref pa)] [(.int (2 : Int32)), (.int pk)]))
      by_cases hc29 : pk = (2 : Int32)
      · have hz2 : kn = 2 := own_knz hk hc29 (by decide)
        refine own_st (fun _ k => XS.icmpNo X0.here hx rfl (hb hby own_d_method_2_code_29) rfl (teq hc29).2 k) ?_
        show own_Gl _ _ _ _ _ _ _ (s₁.setTop (mkF m 32 #[.val (.int pk), .val (.int pc), .val (.long q1), .second, .val (.int pd), .val (.ref pa)] []))
        refine own_st (fun _ k => XS.bipush X0.here hx rfl (hb hby own_d_method_2_code_32) k) ?_
        show own_Gl _ _ _ _ _ _ _ (s₁.setTop (mkF m 34 #[.val (.int pk), .val (.int pc), .val (.long q1), .second, .val (.int pd), .val (.ref pa)] [(.int (46 : Int32))]))
        exact own_retN X0 hx hlk (t := .char) hret (by simp) (hb hby own_d_method_2_code_34) e0 ⟨_, rfl, N0, rfl, by rw [own_ev, if_neg hz0, if_neg hz1, if_pos hz2]; decide⟩ (by decide) (by decide)
      · have hz2 : ¬ kn = 2 := fun z => hc29 (own_eqII hk (by rw [z]; decide))
        refine own_st (fun _ k => XS.icmpYes X0.here hx rfl (pc0 := 29) (pc' := 35) rfl (hb hby own_d_method_2_code_29) rfl (feq hc29).2 (by decide) (by decide) k) ?_
        show own_Gl _ _ _ _ _ _ _ (s₁.setTop (mkF m 35 #[.val (.int pk), .val (.int pc), .val (.long q1), .second, .val (.int pd), .val (.ref pa)] []))
        have hk3 : 3 ≤ kn := by omega
        refine own_st (fun _ k => XS.iloadN X0.here hx rfl (hb hby own_d_method_2_code_35) rfl k) ?_
        show own_Gl _ _ _ _ _ _ _ (s₁.setTop (mkF m 36 #[.val (.int pk), .val (.int pc), .val (.long q1), .second, .val (.int pd), .val (.ref pa)] [(.int pk)]))
        refine own_st (fun _ k => XS.iconst X0.here hx rfl (hb hby own_d_method_2_code_36) k) ?_
        show own_Gl _ _ _ _ _ _ _ (s₁.setTop (mkF m 37 #[.val (.int pk), .val (.int pc), .val (.long q1), .second, .val (.int pd), .val (.ref pa)] [(.int (3 : Int32)), (.int pk)]))
        refine own_st (fun _ k => XS.isub X0.here hx rfl (hb hby own_d_method_2_code_37) rfl k) ?_
        show own_Gl _ _ _ _ _ _ _ (s₁.setTop (mkF m 38 #[.val (.int pk), .val (.int pc), .val (.long q1), .second, .val (.int pd), .val (.ref pa)] [(.int (pk - (3 : Int32)))]))
        refine own_st (fun _ k => XS.iload X0.here hx rfl (hb hby own_d_method_2_code_38) rfl k) ?_
        show own_Gl _ _ _ _ _ _ _ (s₁.setTop (mkF m 40 #[.val (.int pk), .val (.int pc), .val (.long q1), .second, .val (.int pd), .val (.ref pa)] [(.int pd), (.int (pk - (3 : Int32)))]))
        by_cases hc40 : (pk - (3 : Int32)) < pd
        · have hz3 : kn < dn + 3 := by have q := (own_ltI (own_subI hk (by decide : (3 : Int32).toInt = ((3 : Nat) : Int)) hk3) hd.1).mp hc40; omega
          refine own_st (fun _ k => XS.icmpNo X0.here hx rfl (hb hby own_d_method_2_code_40) rfl (tlt hc40).2.1 k) ?_
          show own_Gl _ _ _ _ _ _ _ (s₁.setTop (mkF m 43 #[.val (.int pk), .val (.int pc), .val (.long q1), .second, .val (.int pd), .val (.ref pa)] []))
          refine own_st (fun _ k => XS.bipush X0.here hx rfl (hb hby own_d_method_2_code_43) k) ?_
          show own_Gl _ _ _ _ _ _ _ (s₁.setTop (mkF m 45 #[.val (.int pk), .val (.int pc), .val (.long q1), .second, .val (.int pd), .val (.ref pa)] [(.int (48 : Int32))]))
          refine own_st (fun _ k => XS.lloadN X0.here hx rfl (hb hby own_d_method_2_code_45) rfl k) ?_
          show own_Gl _ _ _ _ _ _ _ (s₁.setTop (mkF m 46 #[.val (.int pk), .val (.int pc), .val (.long q1), .second, .val (.int pd), .val (.ref pa)] [(.long q1), (.int (48 : Int32))]))
          refine own_st (fun _ k => XS.aload X0.here hx rfl (hb hby own_d_method_2_code_46) rfl rfl k) ?_
          show own_Gl _ _ _ _ _ _ _ (s₁.setTop (mkF m 48 #[.val (.int pk), .val (.int pc), .val (.long q1), .second, .val (.int pd), .val (.ref pa)] [(.ref pa), (.long q1), (.int (48 : Int32))]))
          refine own_st (fun _ k => XS.iloadN X0.here hx rfl (hb hby own_d_method_2_code_48) rfl k) ?_
          show own_Gl _ _ _ _ _ _ _ (s₁.setTop (mkF m 49 #[.val (.int pk), .val (.int pc), .val (.long q1), .second, .val (.int pd), .val (.ref pa)] [(.int pk), (.ref pa), (.long q1), (.int (48 : Int32))]))
          refine own_st (fun _ k => XS.iconst X0.here hx rfl (hb hby own_d_method_2_code_49) k) ?_
          show own_Gl _ _ _ _ _ _ _ (s₁.setTop (mkF m 50 #[.val (.int pk), .val (.int pc), .val (.long q1), .second, .val (.int pd), .val (.ref pa)] [(.int (3 : Int32)), (.int pk), (.ref pa), (.long q1), (.int (48 : Int32))]))
          refine own_st (fun _ k => XS.isub X0.here hx rfl (hb hby own_d_method_2_code_50) rfl k) ?_
          show own_Gl _ _ _ _ _ _ _ (s₁.setTop (mkF m 51 #[.val (.int pk), .val (.int pc), .val (.long q1), .second, .val (.int pd), .val (.ref pa)] [(.int (pk - (3 : Int32))), (.ref pa), (.long q1), (.int (48 : Int32))]))
          obtain ⟨cl1, Ar1, qq1, Ss1, Nn1, Hh1, Gg1⟩ := id V_pa
          have hin1 : ¬ ((pk - (3 : Int32)) < 0 ∨ cl1.slots.size ≤ ((pk - (3 : Int32))).toNatClampNeg) := inb_of Ss1 (own_inI (own_subI hk (by decide : (3 : Int32).toInt = ((3 : Nat) : Int)) hk3) (by decide : (18 : Int32).toInt = ((18 : Nat) : Int)) (by omega))
          have hat1 : cl1.slots[((pk - (3 : Int32))).toNatClampNeg]? = some (.long (Int64.ofNat (10 ^ (kn - 3)))) := Hh1.at hin1 ((by rw [own_natI (own_subI hk (by decide : (3 : Int32).toInt = ((3 : Nat) : Int)) hk3)]; exact own_pl _ (by omega)))
          refine own_st (X0.laload hx (j := (pk - (3 : Int32))) (v := (.long (Int64.ofNat (10 ^ (kn - 3))))) (by rw [e0]; exact Ar1.1) (State.isArrayOf_alike hZ.alike Ar1.2.1) Ar1.2.2 hin1 hat1 (g := (mkF m 51 #[.val (.int pk), .val (.int pc), .val (.long q1), .second, .val (.int pd), .val (.ref pa)] [(.int (pk - (3 : Int32))), (.ref pa), (.long q1), (.int (48 : Int32))])) rfl rfl (hb hby own_d_method_2_code_51)) ?_
          show own_Gl _ _ _ _ _ _ _ (s₁.setTop (mkF m 52 #[.val (.int pk), .val (.int pc), .val (.long q1), .second, .val (.int pd), .val (.ref pa)] [(.long (Int64.ofNat (10 ^ (kn - 3)))), (.long q1), (.int (48 : Int32))]))
          refine own_st (fun _ k => XS.ldiv X0.here hx rfl (hb hby own_d_method_2_code_52) rfl (own_nz10 (by omega)) k) ?_
          show own_Gl _ _ _ _ _ _ _ (s₁.setTop (mkF m 53 #[.val (.int pk), .val (.int pc), .val (.long q1), .second, .val (.int pd), .val (.ref pa)] [(.long (q1 / (Int64.ofNat (10 ^ (kn - 3))))), (.int (48 : Int32))]))
          refine own_st (X0.ldc2Long hx hown (mvT hZ (hw _ (List.mem_of_getElem? (i := 2) rfl))) (g := (mkF m 53 #[.val (.int pk), .val (.int pc), .val (.long q1), .second, .val (.int pd), .val (.ref pa)] [(.long (q1 / (Int64.ofNat (10 ^ (kn - 3))))), (.int (48 : Int32))])) rfl (hb hby own_d_method_2_code_53)) ?_
          show own_Gl _ _ _ _ _ _ _ (s₁.setTop (mkF m 56 #[.val (.int pk), .val (.int pc), .val (.long q1), .second, .val (.int pd), .val (.ref pa)] [(.long (10 : Int64)), (.long (q1 / (Int64.ofNat (10 ^ (kn - 3))))), (.int (48 : Int32))]))
          refine own_st (fun _ k => XS.lrem X0.here hx rfl (hb hby own_d_method_2_code_56) rfl (by decide) k) ?_
          show own_Gl _ _ _ _ _ _ _ (s₁.setTop (mkF m 57 #[.val (.int pk), .val (.int pc), .val (.long q1), .second, .val (.int pd), .val (.ref pa)] [(.long ((q1 / (Int64.ofNat (10 ^ (kn - 3)))) - ((q1 / (Int64.ofNat (10 ^ (kn - 3)))) / (10 : Int64)) * (10 : Int64))), (.int (48 : Int32))]))
          refine own_st (fun _ k => XS.l2i X0.here hx rfl (hb hby own_d_method_2_code_57) rfl k) ?_
          show own_Gl _ _ _ _ _ _ _ (s₁.setTop (mkF m 58 #[.val (.int pk), .val (.int pc), .val (.long q1), .second, .val (.int pd), .val (.ref pa)] [(.int (((q1 / (Int64.ofNat (10 ^ (kn - 3)))) - ((q1 / (Int64.ofNat (10 ^ (kn - 3)))) / (10 : Int64)) * (10 : Int64)).toInt32)), (.int (48 : Int32))]))
          refine own_st (fun _ k => XS.iadd X0.here hx rfl (hb hby own_d_method_2_code_58) rfl k) ?_
          show own_Gl _ _ _ _ _ _ _ (s₁.setTop (mkF m 59 #[.val (.int pk), .val (.int pc), .val (.long q1), .second, .val (.int pd), .val (.ref pa)] [(.int ((48 : Int32) + (((q1 / (Int64.ofNat (10 ^ (kn - 3)))) - ((q1 / (Int64.ofNat (10 ^ (kn - 3)))) / (10 : Int64)) * (10 : Int64)).toInt32)))]))
          refine own_st (fun _ k => XS.i2c X0.here hx rfl (hb hby own_d_method_2_code_59) rfl k) ?_
          show own_Gl _ _ _ _ _ _ _ (s₁.setTop (mkF m 60 #[.val (.int pk), .val (.int pc), .val (.long q1), .second, .val (.int pd), .val (.ref pa)] [(.int (((48 : Int32) + (((q1 / (Int64.ofNat (10 ^ (kn - 3)))) - ((q1 / (Int64.ofNat (10 ^ (kn - 3)))) / (10 : Int64)) * (10 : Int64)).toInt32)).toUInt32.toUInt16.toUInt32.toInt32))]))
          exact own_retN X0 hx hlk (t := .char) hret (by simp) (hb hby own_d_method_2_code_60) e0 ⟨_, rfl, N0, rfl, by rw [own_ev, if_neg hz0, if_neg hz1, if_neg hz2, if_pos hz3]; exact own_x3 hy (by omega)⟩ (by decide) (by decide)
        · have hz3 : ¬ kn < dn + 3 := fun z => hc40 ((own_ltI (own_subI hk (by decide : (3 : Int32).toInt = ((3 : Nat) : Int)) hk3) hd.1).mpr (by omega))
          refine own_st (fun _ k => XS.icmpYes X0.here hx rfl (pc0 := 40) (pc' := 61) rfl (hb hby own_d_method_2_code_40) rfl (flt hc40).2.1 (by decide) (by decide) k) ?_
          show own_Gl _ _ _ _ _ _ _ (s₁.setTop (mkF m 61 #[.val (.int pk), .val (.int pc), .val (.long q1), .second, .val (.int pd), .val (.ref pa)] []))
          refine own_st (fun _ k => XS.bipush X0.here hx rfl (hb hby own_d_method_2_code_61) k) ?_
          show own_Gl _ _ _ _ _ _ _ (s₁.setTop (mkF m 63 #[.val (.int pk), .val (.int pc), .val (.long q1), .second, .val (.int pd), .val (.ref pa)] [(.int (45 : Int32))]))
          exact own_retN X0 hx hlk (t := .char) hret (by simp) (hb hby own_d_method_2_code_63) e0 ⟨_, rfl, N0, rfl, by rw [own_ev, if_neg hz0, if_neg hz1, if_neg hz2, if_neg hz3]; decide⟩ (by decide) (by decide)
theorem own_d_method_3_code_0 : decode method_3_code 0 = .ok (.iload_n 1, 1) := by decide +kernel
theorem own_d_method_3_code_1 : decode method_3_code 1 = .ok (.iload_n 2, 1) := by decide +kernel
theorem own_d_method_3_code_2 : decode method_3_code 2 = .ok (.if_icmp .lt 8, 3) := by decide +kernel
theorem own_d_method_3_code_10 : decode method_3_code 10 = .ok (.aload_n 0, 1) := by decide +kernel
theorem own_d_method_3_code_11 : decode method_3_code 11 = .ok (.iload_n 1, 1) := by decide +kernel
theorem own_d_method_3_code_12 : decode method_3_code 12 = .ok (.caload, 1) := by decide +kernel
theorem own_d_method_3_code_13 : decode method_3_code 13 = .ok (.ifCond .ne 7, 3) := by decide +kernel
theorem own_d_method_3_code_16 : decode method_3_code 16 = .ok (.iconst 1, 1) := by decide +kernel
theorem own_d_method_3_code_17 : decode method_3_code 17 = .ok (.goto 4, 3) := by decide +kernel
theorem own_d_method_3_code_21 : decode method_3_code 21 = .ok (.ireturn, 1) := by decide +kernel
theorem own_d_method_3_code_5 : decode method_3_code 5 = .ok (.iload_n 1, 1) := by decide +kernel
theorem own_d_method_3_code_6 : decode method_3_code 6 = .ok (.iload_n 3, 1) := by decide +kernel
theorem own_d_method_3_code_7 : decode method_3_code 7 = .ok (.if_icmp .lt 15, 3) := by decide +kernel
theorem own_d_method_3_code_22 : decode method_3_code 22 = .ok (.aload_n 0, 1) := by decide +kernel
theorem own_d_method_3_code_23 : decode method_3_code 23 = .ok (.iload_n 1, 1) := by decide +kernel
theorem own_d_method_3_code_24 : decode method_3_code 24 = .ok (.caload, 1) := by decide +kernel
theorem own_d_method_3_code_25 : decode method_3_code 25 = .ok (.iload_n 3, 1) := by decide +kernel
theorem own_d_method_3_code_26 : decode method_3_code 26 = .ok (.iconst 1, 1) := by decide +kernel
theorem own_d_method_3_code_27 : decode method_3_code 27 = .ok (.isub, 1) := by decide +kernel
theorem own_d_method_3_code_28 : decode method_3_code 28 = .ok (.iload_n 1, 1) := by decide +kernel
theorem own_d_method_3_code_29 : decode method_3_code 29 = .ok (.isub, 1) := by decide +kernel
theorem own_d_method_3_code_30 : decode method_3_code 30 = .ok (.iload 4, 2) := by decide +kernel
theorem own_d_method_3_code_32 : decode method_3_code 32 = .ok (.lload 5, 2) := by decide +kernel
theorem own_d_method_3_code_34 : decode method_3_code 34 = .ok (.iload 7, 2) := by decide +kernel
theorem own_d_method_3_code_36 : decode method_3_code 36 = .ok (.aload 8, 2) := by decide +kernel
theorem own_d_method_3_code_38 : decode method_3_code 38 = .ok (.invokestatic 9, 3) := by decide +kernel
theorem own_pd191427445 : parseMethodDescriptor "(IIJI[J)C" = some ⟨[.int, .int, .long, .int, (.array .long)], some .char⟩ := by decide +kernel
theorem own_d_method_3_code_41 : decode method_3_code 41 = .ok (.if_icmp .ne 7, 3) := by decide +kernel
theorem own_d_method_3_code_44 : decode method_3_code 44 = .ok (.iconst 1, 1) := by decide +kernel
theorem own_d_method_3_code_45 : decode method_3_code 45 = .ok (.goto 4, 3) := by decide +kernel
theorem own_d_method_3_code_49 : decode method_3_code 49 = .ok (.ireturn, 1) := by decide +kernel
theorem own_ef_own_rcell (m : MethodId) (x0 : Addr) (x1 : Int32) (x2 : Int32) (x3 : Int32) (x4 : Int32) (x5 : Int64) (x6 : Int32) (x7 : Addr) : entryFrame m #[(.ref x0), (.int x1), (.int x2), (.int x3), (.int x4), (.long x5), (.int x6), (.ref x7)] 9 = mkF m 0 #[.val (.ref x0), .val (.int x1), .val (.int x2), .val (.int x3), .val (.int x4), .val (.long x5), .second, .val (.int x6), .val (.ref x7)] [] := by first | (simp [entryFrame, mkF, argsToLocals, Value.category]; done) | rfl
def own_Q_own_rcell (Z : State) (a : Addr) (pi : Int32) (pl : Int32) (pe : Int32) (pc : Int32) (q1 : Int64) (pd : Int32) (pa : Addr) (k : ClassId) (kp : ClassId) (g : Nat → Int32) (Y : Nat) (C : Nat) (dn : Nat) (N : Nat) (la : Nat) (iN : Nat) (h0 : Heap) (n0 : Nat) (v : Option Value) (h : Heap) (L : List Loc) : Prop := (v = some (.int (1 : Int32))) ∧ (Fr n0 L) ∧ (h = h0)
set_option maxRecDepth 65536 in
set_option maxHeartbeats 40000000 in
theorem own_rcell (l : Launch) (Z : State) (a0 : Array Value) (hw : ∀ d ∈ tables_1, d.before a0 Z = true) (ws : List Jvm.Cond) (a : Addr) (pi : Int32) (pl : Int32) (pe : Int32) (pc : Int32) (q1 : Int64) (pd : Int32) (pa : Addr) (k : ClassId) (kp : ClassId) (g : Nat → Int32) (Y : Nat) (C : Nat) (dn : Nat) (N : Nat) (la : Nat) (iN : Nat) (h0 : Heap) (n0 : Nat) (Z0 : n0 ≤ h0.size) (V_a : Arv Z h0 a k .char (26 : Int32) (own_fl 26 g) (.int (0 : Int32))) (V_pa : Arv Z h0 pa kp .long (18 : Int32) own_pls (.long (0 : Int64))) (hi : pi.toInt = (iN : Int) ∧ iN < 26) (hl : pl.toInt = (la : Int)) (he : pe.toInt = ((la + N + dn + 3 : Nat) : Int)) (hNb : N ≤ 1) (hc : pc.toInt = (C : Int) ∧ C < 100) (hy : q1.toInt = (Y : Int)) (hd : pd.toInt = (dn : Int) ∧ dn ≤ 17) (hgv : ∀ i, i < 26 → (g i).toInt = own_fs Y C la N dn i) :
    MetFree l (⟨"org/benli/core/MoneyToCharsPinLaw", "cell", "([CIIIIJI[J)Z"⟩ : MethodName) (head1 (Jvm.Cond.code (⟨"org/benli/core/MoneyToCharsPinLaw", "cell", "([CIIIIJI[J)Z"⟩ : MethodName) method_3_code 9 (some .boolean) :: ws) ({ frames := 1, cells := 0, slots := 0, locals := 18 } : Room)) (fun xa xU => xa = #[(.ref a), (.int pi), (.int pl), (.int pe), (.int pc), (.long q1), (.int pd), (.ref pa)] ∧ Z.Warmed39 xU.vm ∧ xU.heap = h0) (fun _ _ _ _ _ => True) (fun _ xU xo xV => ∃ v L, xo = .returned v ∧ own_Q_own_rcell Z a pi pl pe pc q1 pd pa k kp g Y C dn N la iN h0 n0 v xV.heap L ∧ FrameEnd xU xo xV L ({ frames := 1, cells := 0, slots := 0, locals := 18 } : Room).cells ({ frames := 1, cells := 0, slots := 0, locals := 18 } : Room).slots) := by
  refine MetFree.of_bodySF (plainFor_of_name own_pn441892570) hisR ?_
  intro p e s m args below meth c s₁ Bd hml0 hP hK
  obtain ⟨rfl, hZ, hh⟩ := hP
  have hx := Bd.exec
  have hby := Bd.bytes
  have hlk := Bd.notSynchronized
  have hret := Bd.returns
  have hml : c.maxLocals = 9 := hml0
  have hown : s.vm.findClass "org/benli/core/MoneyToCharsPinLaw" = some m.cls := findClass_of_methodNamed Bd.named
  have hnm := (name_of_methodNamed Bd.named Bd.method).1
  have X0 : Stand p l e ({ frames := 1, cells := 0, slots := 0, locals := 18 } : Room) s m #[(.ref a), (.int pi), (.int pl), (.int pe), (.int pc), (.long q1), (.int pd), (.ref pa)] below meth c s₁ [] 0 0 := Stand.of_body Bd
  have e0 : s₁.heap = h0 := by rw [← hh, Bd.state]; rfl
  have N0 := Fr.nil n0
  show own_Gl p e below s (own_Q_own_rcell Z a pi pl pe pc q1 pd pa k kp g Y C dn N la iN h0 n0) ({ frames := 1, cells := 0, slots := 0, locals := 18 } : Room).cells ({ frames := 1, cells := 0, slots := 0, locals := 18 } : Room).slots _
  refine own_cast (own_ef_own_rcell m a pi pl pe pc q1 pd pa) ?_
  show own_Gl _ _ _ _ _ _ _ (s₁.setTop (mkF m 0 #[.val (.ref a), .val (.int pi), .val (.int pl), .val (.int pe), .val (.int pc), .val (.long q1), .second, .val (.int pd), .val (.ref pa)] []))
  refine own_st (fun _ k => XS.iloadN X0.here hx rfl (hb hby own_d_method_3_code_0) rfl k) ?_
  show own_Gl _ _ _ _ _ _ _ (s₁.setTop (mkF m 1 #[.val (.ref a), .val (.int pi), .val (.int pl), .val (.int pe), .val (.int pc), .val (.long q1), .second, .val (.int pd), .val (.ref pa)] [(.int pi)]))
  refine own_st (fun _ k => XS.iloadN X0.here hx rfl (hb hby own_d_method_3_code_1) rfl k) ?_
  show own_Gl _ _ _ _ _ _ _ (s₁.setTop (mkF m 2 #[.val (.ref a), .val (.int pi), .val (.int pl), .val (.int pe), .val (.int pc), .val (.long q1), .second, .val (.int pd), .val (.ref pa)] [(.int pl), (.int pi)]))
  by_cases hc2 : pi < pl
  · refine own_st (fun _ k => XS.icmpYes X0.here hx rfl (pc0 := 2) (pc' := 10) rfl (hb hby own_d_method_3_code_2) rfl (tlt hc2).1 (by decide) (by decide) k) ?_
    show own_Gl _ _ _ _ _ _ _ (s₁.setTop (mkF m 10 #[.val (.ref a), .val (.int pi), .val (.int pl), .val (.int pe), .val (.int pc), .val (.long q1), .second, .val (.int pd), .val (.ref pa)] []))
    refine own_st (fun _ k => XS.aloadN X0.here hx rfl (hb hby own_d_method_3_code_10) rfl rfl k) ?_
    show own_Gl _ _ _ _ _ _ _ (s₁.setTop (mkF m 11 #[.val (.ref a), .val (.int pi), .val (.int pl), .val (.int pe), .val (.int pc), .val (.long q1), .second, .val (.int pd), .val (.ref pa)] [(.ref a)]))
    refine own_st (fun _ k => XS.iloadN X0.here hx rfl (hb hby own_d_method_3_code_11) rfl k) ?_
    show own_Gl _ _ _ _ _ _ _ (s₁.setTop (mkF m 12 #[.val (.ref a), .val (.int pi), .val (.int pl), .val (.int pe), .val (.int pc), .val (.long q1), .second, .val (.int pd), .val (.ref pa)] [(.int pi), (.ref a)]))
    obtain ⟨cl1, Ar1, qq1, Ss1, Nn1, Hh1, Gg1⟩ := id V_a
    have hin1 : ¬ (pi < 0 ∨ cl1.slots.size ≤ (pi).toNatClampNeg) := inb_of Ss1 (own_inI hi.1 (by decide : (26 : Int32).toInt = ((26 : Nat) : Int)) hi.2)
    have hat1 : cl1.slots[(pi).toNatClampNeg]? = some (.int (g iN)) := Hh1.at hin1 ((by rw [own_natI hi.1]; exact own_fl_get _ _ _ _ hi.2))
    refine own_st (X0.caload hx (j := pi) (v := (.int (g iN))) (by rw [e0]; exact Ar1.1) (State.isArrayOf_alike hZ.alike Ar1.2.1) Ar1.2.2 hin1 hat1 (g := (mkF m 12 #[.val (.ref a), .val (.int pi), .val (.int pl), .val (.int pe), .val (.int pc), .val (.long q1), .second, .val (.int pd), .val (.ref pa)] [(.int pi), (.ref a)])) rfl rfl (hb hby own_d_method_3_code_12)) ?_
    show own_Gl _ _ _ _ _ _ _ (s₁.setTop (mkF m 13 #[.val (.ref a), .val (.int pi), .val (.int pl), .val (.int pe), .val (.int pc), .val (.long q1), .second, .val (.int pd), .val (.ref pa)] [(.int (g iN))]))
    have hd2 : (g iN) = (0 : Int32) := own_eqII (z := 0) (by rw [hgv _ hi.2, own_fs, if_pos (Or.inl ((own_ltI hi.1 hl).mp hc2))]) (by decide)
    refine own_st (fun _ k => XS.ifNo X0.here hx rfl (hb hby own_d_method_3_code_13) rfl ((if0 _ _).trans (teq hd2).2) k) ?_
    show own_Gl _ _ _ _ _ _ _ (s₁.setTop (mkF m 16 #[.val (.ref a), .val (.int pi), .val (.int pl), .val (.int pe), .val (.int pc), .val (.long q1), .second, .val (.int pd), .val (.ref pa)] []))
    refine own_st (fun _ k => XS.iconst X0.here hx rfl (hb hby own_d_method_3_code_16) k) ?_
    show own_Gl _ _ _ _ _ _ _ (s₁.setTop (mkF m 17 #[.val (.ref a), .val (.int pi), .val (.int pl), .val (.int pe), .val (.int pc), .val (.long q1), .second, .val (.int pd), .val (.ref pa)] [(.int (1 : Int32))]))
    refine own_st (fun _ k => XS.goto X0.here hx rfl (pc0 := 17) (pc' := 21) rfl (hb hby own_d_method_3_code_17) (by decide) (by decide) k) ?_
    show own_Gl _ _ _ _ _ _ _ (s₁.setTop (mkF m 21 #[.val (.ref a), .val (.int pi), .val (.int pl), .val (.int pe), .val (.int pc), .val (.long q1), .second, .val (.int pd), .val (.ref pa)] [(.int (1 : Int32))]))
    exact own_retN X0 hx hlk (t := .boolean) hret (by simp) (hb hby own_d_method_3_code_21) e0 ⟨rfl, N0, rfl⟩ (by decide) (by decide)
  · refine own_st (fun _ k => XS.icmpNo X0.here hx rfl (hb hby own_d_method_3_code_2) rfl (flt hc2).1 k) ?_
    show own_Gl _ _ _ _ _ _ _ (s₁.setTop (mkF m 5 #[.val (.ref a), .val (.int pi), .val (.int pl), .val (.int pe), .val (.int pc), .val (.long q1), .second, .val (.int pd), .val (.ref pa)] []))
    refine own_st (fun _ k => XS.iloadN X0.here hx rfl (hb hby own_d_method_3_code_5) rfl k) ?_
    show own_Gl _ _ _ _ _ _ _ (s₁.setTop (mkF m 6 #[.val (.ref a), .val (.int pi), .val (.int pl), .val (.int pe), .val (.int pc), .val (.long q1), .second, .val (.int pd), .val (.ref pa)] [(.int pi)]))
    refine own_st (fun _ k => XS.iloadN X0.here hx rfl (hb hby own_d_method_3_code_6) rfl k) ?_
    show own_Gl _ _ _ _ _ _ _ (s₁.setTop (mkF m 7 #[.val (.ref a), .val (.int pi), .val (.int pl), .val (.int pe), .val (.int pc), .val (.long q1), .second, .val (.int pd), .val (.ref pa)] [(.int pe), (.int pi)]))
    by_cases hc7 : pi < pe
    · refine own_st (fun _ k => XS.icmpYes X0.here hx rfl (pc0 := 7) (pc' := 22) rfl (hb hby own_d_method_3_code_7) rfl (tlt hc7).1 (by decide) (by decide) k) ?_
      show own_Gl _ _ _ _ _ _ _ (s₁.setTop (mkF m 22 #[.val (.ref a), .val (.int pi), .val (.int pl), .val (.int pe), .val (.int pc), .val (.long q1), .second, .val (.int pd), .val (.ref pa)] []))
      refine own_st (fun _ k => XS.aloadN X0.here hx rfl (hb hby own_d_method_3_code_22) rfl rfl k) ?_
      show own_Gl _ _ _ _ _ _ _ (s₁.setTop (mkF m 23 #[.val (.ref a), .val (.int pi), .val (.int pl), .val (.int pe), .val (.int pc), .val (.long q1), .second, .val (.int pd), .val (.ref pa)] [(.ref a)]))
      refine own_st (fun _ k => XS.iloadN X0.here hx rfl (hb hby own_d_method_3_code_23) rfl k) ?_
      show own_Gl _ _ _ _ _ _ _ (s₁.setTop (mkF m 24 #[.val (.ref a), .val (.int pi), .val (.int pl), .val (.int pe), .val (.int pc), .val (.long q1), .second, .val (.int pd), .val (.ref pa)] [(.int pi), (.ref a)]))
      obtain ⟨cl3, Ar3, qq3, Ss3, Nn3, Hh3, Gg3⟩ := id V_a
      have hin3 : ¬ (pi < 0 ∨ cl3.slots.size ≤ (pi).toNatClampNeg) := inb_of Ss3 (own_inI hi.1 (by decide : (26 : Int32).toInt = ((26 : Nat) : Int)) hi.2)
      have hat3 : cl3.slots[(pi).toNatClampNeg]? = some (.int (g iN)) := Hh3.at hin3 ((by rw [own_natI hi.1]; exact own_fl_get _ _ _ _ hi.2))
      refine own_st (X0.caload hx (j := pi) (v := (.int (g iN))) (by rw [e0]; exact Ar3.1) (State.isArrayOf_alike hZ.alike Ar3.2.1) Ar3.2.2 hin3 hat3 (g := (mkF m 24 #[.val (.ref a), .val (.int pi), .val (.int pl), .val (.int pe), .val (.int pc), .val (.long q1), .second, .val (.int pd), .val (.ref pa)] [(.int pi), (.ref a)])) rfl rfl (hb hby own_d_method_3_code_24)) ?_
      show own_Gl _ _ _ _ _ _ _ (s₁.setTop (mkF m 25 #[.val (.ref a), .val (.int pi), .val (.int pl), .val (.int pe), .val (.int pc), .val (.long q1), .second, .val (.int pd), .val (.ref pa)] [(.int (g iN))]))
      refine own_st (fun _ k => XS.iloadN X0.here hx rfl (hb hby own_d_method_3_code_25) rfl k) ?_
      show own_Gl _ _ _ _ _ _ _ (s₁.setTop (mkF m 26 #[.val (.ref a), .val (.int pi), .val (.int pl), .val (.int pe), .val (.int pc), .val (.long q1), .second, .val (.int pd), .val (.ref pa)] [(.int pe), (.int (g iN))]))
      refine own_st (fun _ k => XS.iconst X0.here hx rfl (hb hby own_d_method_3_code_26) k) ?_
      show own_Gl _ _ _ _ _ _ _ (s₁.setTop (mkF m 27 #[.val (.ref a), .val (.int pi), .val (.int pl), .val (.int pe), .val (.int pc), .val (.long q1), .second, .val (.int pd), .val (.ref pa)] [(.int (1 : Int32)), (.int pe), (.int (g iN))]))
      refine own_st (fun _ k => XS.isub X0.here hx rfl (hb hby own_d_method_3_code_27) rfl k) ?_
      show own_Gl _ _ _ _ _ _ _ (s₁.setTop (mkF m 28 #[.val (.ref a), .val (.int pi), .val (.int pl), .val (.int pe), .val (.int pc), .val (.long q1), .second, .val (.int pd), .val (.ref pa)] [(.int (pe - (1 : Int32))), (.int (g iN))]))
      refine own_st (fun _ k => XS.iloadN X0.here hx rfl (hb hby own_d_method_3_code_28) rfl k) ?_
      show own_Gl _ _ _ _ _ _ _ (s₁.setTop (mkF m 29 #[.val (.ref a), .val (.int pi), .val (.int pl), .val (.int pe), .val (.int pc), .val (.long q1), .second, .val (.int pd), .val (.ref pa)] [(.int pi), (.int (pe - (1 : Int32))), (.int (g iN))]))
      refine own_st (fun _ k => XS.isub X0.here hx rfl (hb hby own_d_method_3_code_29) rfl k) ?_
      show own_Gl _ _ _ _ _ _ _ (s₁.setTop (mkF m 30 #[.val (.ref a), .val (.int pi), .val (.int pl), .val (.int pe), .val (.int pc), .val (.long q1), .second, .val (.int pd), .val (.ref pa)] [(.int ((pe - (1 : Int32)) - pi)), (.int (g iN))]))
      refine own_st (fun _ k => XS.iload X0.here hx rfl (hb hby own_d_method_3_code_30) rfl k) ?_
      show own_Gl _ _ _ _ _ _ _ (s₁.setTop (mkF m 32 #[.val (.ref a), .val (.int pi), .val (.int pl), .val (.int pe), .val (.int pc), .val (.long q1), .second, .val (.int pd), .val (.ref pa)] [(.int pc), (.int ((pe - (1 : Int32)) - pi)), (.int (g iN))]))
      refine own_st (fun _ k => XS.lload X0.here hx rfl (hb hby own_d_method_3_code_32) rfl k) ?_
      show own_Gl _ _ _ _ _ _ _ (s₁.setTop (mkF m 34 #[.val (.ref a), .val (.int pi), .val (.int pl), .val (.int pe), .val (.int pc), .val (.long q1), .second, .val (.int pd), .val (.ref pa)] [(.long q1), (.int pc), (.int ((pe - (1 : Int32)) - pi)), (.int (g iN))]))
      refine own_st (fun _ k => XS.iload X0.here hx rfl (hb hby own_d_method_3_code_34) rfl k) ?_
      show own_Gl _ _ _ _ _ _ _ (s₁.setTop (mkF m 36 #[.val (.ref a), .val (.int pi), .val (.int pl), .val (.int pe), .val (.int pc), .val (.long q1), .second, .val (.int pd), .val (.ref pa)] [(.int pd), (.long q1), (.int pc), (.int ((pe - (1 : Int32)) - pi)), (.int (g iN))]))
      refine own_st (fun _ k => XS.aload X0.here hx rfl (hb hby own_d_method_3_code_36) rfl rfl k) ?_
      show own_Gl _ _ _ _ _ _ _ (s₁.setTop (mkF m 38 #[.val (.ref a), .val (.int pi), .val (.int pl), .val (.int pe), .val (.int pc), .val (.long q1), .second, .val (.int pd), .val (.ref pa)] [(.ref pa), (.int pd), (.long q1), (.int pc), (.int ((pe - (1 : Int32)) - pi)), (.int (g iN))]))
      obtain ⟨_, _, ⟨T4, L4, k4, n4⟩, -, X4, ⟨Lc4, hQ4, l4, y4, z4⟩, st4⟩ := Jvm.LawKit.callS X0 hx (y := (⟨"org/benli/core/MoneyToCharsPinLaw", "expect", "(IIJI[J)C"⟩ : MethodName)) hown (mvT hZ (hw _ (List.mem_of_getElem? (i := 41) rfl))) (mvT hZ (hw _ (List.mem_of_getElem? (i := 42) rfl))) (mvT hZ (hw _ (List.mem_of_getElem? (i := 39) rfl))) (mvT hZ (hw _ (List.mem_of_getElem? (i := 43) rfl))) (by decide) (backOf (W := 1) (own_exp l Z a0 hw [] ((pe - (1 : Int32)) - pi) pc q1 pd pa kp Y C dn (la + N + dn + 3 - 1 - iN) h0 n0 Z0 V_pa (own_subI (own_subI he (by decide : (1 : Int32).toInt = ((1 : Nat) : Int)) (by omega)) hi.1 (by have := (own_ltI hi.1 he).mp hc7; omega)) hc hy hd) hZ (hw _ (List.mem_of_getElem? (i := 43) rfl)) (hw _ (List.mem_of_getElem? (i := 39) rfl)) (by decide) (by decide)) (g := (mkF m 38 #[.val (.ref a), .val (.int pi), .val (.int pl), .val (.int pe), .val (.int pc), .val (.long q1), .second, .val (.int pd), .val (.ref pa)] [(.ref pa), (.int pd), (.long q1), (.int pc), (.int ((pe - (1 : Int32)) - pi)), (.int (g iN))])) rfl (by rw [hml]; rfl) (argsL := [(.int ((pe - (1 : Int32)) - pi)), (.int pc), (.long q1), (.int pd), (.ref pa)]) (rest := [(.int (g iN))]) (lenOf own_pd191427445 rfl) rfl (by show 2 * 0 + _ ≤ _; exact Nat.le_of_eq rfl) (hb hby own_d_method_3_code_38) (fun _ _ => ⟨rfl, e0, (by decide : 0 + 0 ≤ ({ frames := 1, cells := 0, slots := 0, locals := 18 } : Room).cells), (by decide : 0 + 0 ≤ ({ frames := 1, cells := 0, slots := 0, locals := 18 } : Room).slots)⟩)
      dsimp only [Pt.U, Pt.locs, Pt.cells, Pt.slots] at X4 l4 y4 z4 st4 hQ4
      subst l4 y4 z4
      obtain ⟨hh4, eh04⟩ : ∃ z, T4.heap = z := ⟨_, rfl⟩
      rw [eh04] at hQ4
      obtain ⟨w_4, rfl, Nq4, eh4, P4_0⟩ := hQ4
      have N4 := Fr.app N0 Nq4
      refine own_st st4 ?_
      have e4 : T4.heap = h0 := eh04.trans eh4
      show own_Gl _ _ _ _ _ _ _ (T4.setTop (mkF m 41 #[.val (.ref a), .val (.int pi), .val (.int pl), .val (.int pe), .val (.int pc), .val (.long q1), .second, .val (.int pd), .val (.ref pa)] [(.int w_4), (.int (g iN))]))
      have hd5 : (g iN) = w_4 := own_eqII (hgv _ hi.2) (by rw [P4_0, own_cell Y C la N dn iN hNb (fun z => hc2 ((own_ltI hi.1 hl).mpr z)) ((own_ltI hi.1 he).mp hc7)])
      refine own_st (fun _ k => XS.icmpNo X4.here hx rfl (hb hby own_d_method_3_code_41) rfl (teq hd5).2 k) ?_
      show own_Gl _ _ _ _ _ _ _ (T4.setTop (mkF m 44 #[.val (.ref a), .val (.int pi), .val (.int pl), .val (.int pe), .val (.int pc), .val (.long q1), .second, .val (.int pd), .val (.ref pa)] []))
      refine own_st (fun _ k => XS.iconst X4.here hx rfl (hb hby own_d_method_3_code_44) k) ?_
      show own_Gl _ _ _ _ _ _ _ (T4.setTop (mkF m 45 #[.val (.ref a), .val (.int pi), .val (.int pl), .val (.int pe), .val (.int pc), .val (.long q1), .second, .val (.int pd), .val (.ref pa)] [(.int (1 : Int32))]))
      refine own_st (fun _ k => XS.goto X4.here hx rfl (pc0 := 45) (pc' := 49) rfl (hb hby own_d_method_3_code_45) (by decide) (by decide) k) ?_
      show own_Gl _ _ _ _ _ _ _ (T4.setTop (mkF m 49 #[.val (.ref a), .val (.int pi), .val (.int pl), .val (.int pe), .val (.int pc), .val (.long q1), .second, .val (.int pd), .val (.ref pa)] [(.int (1 : Int32))]))
      exact own_retN X4 hx hlk (t := .boolean) hret (by simp) (hb hby own_d_method_3_code_49) e4 ⟨rfl, N4, rfl⟩ (by decide) (by decide)
    · refine own_st (fun _ k => XS.icmpNo X0.here hx rfl (hb hby own_d_method_3_code_7) rfl (flt hc7).1 k) ?_
      show own_Gl _ _ _ _ _ _ _ (s₁.setTop (mkF m 10 #[.val (.ref a), .val (.int pi), .val (.int pl), .val (.int pe), .val (.int pc), .val (.long q1), .second, .val (.int pd), .val (.ref pa)] []))
      refine own_st (fun _ k => XS.aloadN X0.here hx rfl (hb hby own_d_method_3_code_10) rfl rfl k) ?_
      show own_Gl _ _ _ _ _ _ _ (s₁.setTop (mkF m 11 #[.val (.ref a), .val (.int pi), .val (.int pl), .val (.int pe), .val (.int pc), .val (.long q1), .second, .val (.int pd), .val (.ref pa)] [(.ref a)]))
      refine own_st (fun _ k => XS.iloadN X0.here hx rfl (hb hby own_d_method_3_code_11) rfl k) ?_
      show own_Gl _ _ _ _ _ _ _ (s₁.setTop (mkF m 12 #[.val (.ref a), .val (.int pi), .val (.int pl), .val (.int pe), .val (.int pc), .val (.long q1), .second, .val (.int pd), .val (.ref pa)] [(.int pi), (.ref a)]))
      obtain ⟨cl6, Ar6, qq6, Ss6, Nn6, Hh6, Gg6⟩ := id V_a
      have hin6 : ¬ (pi < 0 ∨ cl6.slots.size ≤ (pi).toNatClampNeg) := inb_of Ss6 (own_inI hi.1 (by decide : (26 : Int32).toInt = ((26 : Nat) : Int)) hi.2)
      have hat6 : cl6.slots[(pi).toNatClampNeg]? = some (.int (g iN)) := Hh6.at hin6 ((by rw [own_natI hi.1]; exact own_fl_get _ _ _ _ hi.2))
      refine own_st (X0.caload hx (j := pi) (v := (.int (g iN))) (by rw [e0]; exact Ar6.1) (State.isArrayOf_alike hZ.alike Ar6.2.1) Ar6.2.2 hin6 hat6 (g := (mkF m 12 #[.val (.ref a), .val (.int pi), .val (.int pl), .val (.int pe), .val (.int pc), .val (.long q1), .second, .val (.int pd), .val (.ref pa)] [(.int pi), (.ref a)])) rfl rfl (hb hby own_d_method_3_code_12)) ?_
      show own_Gl _ _ _ _ _ _ _ (s₁.setTop (mkF m 13 #[.val (.ref a), .val (.int pi), .val (.int pl), .val (.int pe), .val (.int pc), .val (.long q1), .second, .val (.int pd), .val (.ref pa)] [(.int (g iN))]))
      have hd7 : (g iN) = (0 : Int32) := own_eqII (z := 0) (by rw [hgv _ hi.2, own_fs, if_pos (Or.inr (Nat.le_of_not_lt fun z => hc7 ((own_ltI hi.1 he).mpr z)))]) (by decide)
      refine own_st (fun _ k => XS.ifNo X0.here hx rfl (hb hby own_d_method_3_code_13) rfl ((if0 _ _).trans (teq hd7).2) k) ?_
      show own_Gl _ _ _ _ _ _ _ (s₁.setTop (mkF m 16 #[.val (.ref a), .val (.int pi), .val (.int pl), .val (.int pe), .val (.int pc), .val (.long q1), .second, .val (.int pd), .val (.ref pa)] []))
      refine own_st (fun _ k => XS.iconst X0.here hx rfl (hb hby own_d_method_3_code_16) k) ?_
      show own_Gl _ _ _ _ _ _ _ (s₁.setTop (mkF m 17 #[.val (.ref a), .val (.int pi), .val (.int pl), .val (.int pe), .val (.int pc), .val (.long q1), .second, .val (.int pd), .val (.ref pa)] [(.int (1 : Int32))]))
      refine own_st (fun _ k => XS.goto X0.here hx rfl (pc0 := 17) (pc' := 21) rfl (hb hby own_d_method_3_code_17) (by decide) (by decide) k) ?_
      show own_Gl _ _ _ _ _ _ _ (s₁.setTop (mkF m 21 #[.val (.ref a), .val (.int pi), .val (.int pl), .val (.int pe), .val (.int pc), .val (.long q1), .second, .val (.int pd), .val (.ref pa)] [(.int (1 : Int32))]))
      exact own_retN X0 hx hlk (t := .boolean) hret (by simp) (hb hby own_d_method_3_code_21) e0 ⟨rfl, N0, rfl⟩ (by decide) (by decide)
theorem own_pd359378519 : parseMethodDescriptor "(J[CI)I" = some ⟨[.long, (.array .char), .int], some .int⟩ := by decide +kernel
theorem own_pd91198999 : parseMethodDescriptor "(J)J" = some ⟨[.long], some .long⟩ := by decide +kernel
theorem own_pd785152518 : parseMethodDescriptor "([CIIIIJI[J)Z" = some ⟨[(.array .char), .int, .int, .int, .int, .long, .int, (.array .long)], some .boolean⟩ := by decide +kernel
theorem own_ef_own_law (m : MethodId) (x0 : Int64) (x1 : Int32) : entryFrame m #[(.long x0), (.int x1)] maxLocals = mkF m 0 #[.val (.long x0), .second, .val (.int x1), .unset, .unset, .unset, .unset, .unset, .unset, .unset, .unset, .unset, .unset, .unset] [] := by first | (simp [entryFrame, mkF, argsToLocals, Value.category, maxLocals]; done) | rfl
def own_Q_own_law (Z : State) (q1 : Int64) (p2 : Int32) (oa : Addr) (ta : Addr) (ko : ClassId) (kt : ClassId) (h0 : Heap) (n0 : Nat) (v : Option Value) (h : Heap) (L : List Loc) : Prop := v = some (.int 1) ∧ Fr n0 L
set_option maxRecDepth 65536 in
set_option maxHeartbeats 40000000 in
theorem own_law (l : Launch) (Z : State) (a0 : Array Value) (hw : ∀ d ∈ tables_1, d.before a0 Z = true) (ws : List Jvm.Cond) (q1 : Int64) (p2 : Int32) (oa : Addr) (ta : Addr) (ko : ClassId) (kt : ClassId) (h0 : Heap) (n0 : Nat) (Z0 : n0 ≤ h0.size) (Old0 : Old Z n0 h0) (S_ONES : Sta Z Z.heap "org/benli/core/Money" "ONES" "[C" (.ref oa)) (S_TENS : Sta Z Z.heap "org/benli/core/Money" "TENS" "[C" (.ref ta)) (V_oa : Arv Z h0 oa ko .char (100 : Int32) (own_fl 100 own_ones) (.int (0 : Int32))) (V_ta : Arv Z h0 ta kt .char (100 : Int32) (own_fl 100 own_tens) (.int (0 : Int32))) :
    MetFree l x (head1 (Jvm.Cond.code x code maxLocals ret :: ws) room_1) (fun xa xU => xa = #[(.long q1), (.int p2)] ∧ Z.Warmed39 xU.vm ∧ xU.heap = h0) (fun _ _ _ _ _ => True) (fun _ xU xo xV => ∃ v L, xo = .returned v ∧ own_Q_own_law Z q1 p2 oa ta ko kt h0 n0 v xV.heap L ∧ FrameEnd xU xo xV L room_1.cells room_1.slots) := by
  refine MetFree.of_bodySF (plainFor_of_name own_pn441892570) hisR ?_
  intro p e s m args below meth c s₁ Bd hml0 hP hK
  obtain ⟨rfl, hZ, hh⟩ := hP
  have hx := Bd.exec
  have hby := Bd.bytes
  have hlk := Bd.notSynchronized
  have hret := Bd.returns
  have hml : c.maxLocals = 14 := hml0
  have hown : s.vm.findClass "org/benli/core/MoneyToCharsPinLaw" = some m.cls := findClass_of_methodNamed Bd.named
  have hnm := (name_of_methodNamed Bd.named Bd.method).1
  have X0 : Stand p l e room_1 s m #[(.long q1), (.int p2)] below meth c s₁ [] 0 0 := Stand.of_body Bd
  have e0 : s₁.heap = h0 := by rw [← hh, Bd.state]; rfl
  have N0 := Fr.nil n0
  show own_Gl p e below s (own_Q_own_law Z q1 p2 oa ta ko kt h0 n0) room_1.cells room_1.slots _
  refine own_cast (own_ef_own_law m q1 p2) ?_
  show own_Gl _ _ _ _ _ _ _ (s₁.setTop (mkF m 0 #[.val (.long q1), .second, .val (.int p2), .unset, .unset, .unset, .unset, .unset, .unset, .unset, .unset, .unset, .unset, .unset] []))
  refine own_st (fun _ k => XS.iloadN X0.here hx rfl (hb hby at_0) rfl k) ?_
  show own_Gl _ _ _ _ _ _ _ (s₁.setTop (mkF m 1 #[.val (.long q1), .second, .val (.int p2), .unset, .unset, .unset, .unset, .unset, .unset, .unset, .unset, .unset, .unset, .unset] [(.int p2)]))
  refine own_st (fun _ k => XS.iconst X0.here hx rfl (hb hby at_1) k) ?_
  show own_Gl _ _ _ _ _ _ _ (s₁.setTop (mkF m 2 #[.val (.long q1), .second, .val (.int p2), .unset, .unset, .unset, .unset, .unset, .unset, .unset, .unset, .unset, .unset, .unset] [(.int (3 : Int32)), (.int p2)]))
  refine own_st (fun _ k => XS.iand X0.here hx rfl (hb hby at_2) rfl k) ?_
  show own_Gl _ _ _ _ _ _ _ (s₁.setTop (mkF m 3 #[.val (.long q1), .second, .val (.int p2), .unset, .unset, .unset, .unset, .unset, .unset, .unset, .unset, .unset, .unset, .unset] [(.int (p2 &&& (3 : Int32)))]))
  refine own_st (fun _ k => XS.istoreN X0.here hx rfl (hb hby at_3) rfl (l' := #[.val (.long q1), .second, .val (.int p2), .val (.int (p2 &&& (3 : Int32))), .unset, .unset, .unset, .unset, .unset, .unset, .unset, .unset, .unset, .unset]) rfl k) ?_
  show own_Gl _ _ _ _ _ _ _ (s₁.setTop (mkF m 4 #[.val (.long q1), .second, .val (.int p2), .val (.int (p2 &&& (3 : Int32))), .unset, .unset, .unset, .unset, .unset, .unset, .unset, .unset, .unset, .unset] []))
  obtain ⟨lo, hlo⟩ : ∃ z, z = (p2 &&& (3 : Int32)) := ⟨_, rfl⟩
  rw [← hlo]
  obtain ⟨la, hla0⟩ : ∃ z : Nat, z = lo.toInt.toNat := ⟨_, rfl⟩
  have hla : lo.toInt = (la : Int) ∧ la ≤ 3 := by have q := c_mask p2 (3 : Int32) 2 (by decide) (by decide); rw [← hlo] at q; omega
  obtain ⟨Y, hY⟩ : ∃ z : Nat, z = q1.toInt.natAbs / 100 := ⟨_, rfl⟩
  obtain ⟨C, hC0⟩ : ∃ z : Nat, z = q1.toInt.natAbs % 100 := ⟨_, rfl⟩
  have hA : q1.toInt.natAbs = 100 * Y + C := by omega
  have hC : C < 100 := by omega
  obtain ⟨N, hN0⟩ : ∃ z : Nat, z = if q1 < (0 : Int64) then 1 else 0 := ⟨_, rfl⟩
  have hN : (q1 < (0 : Int64) → N = 1) ∧ (¬ q1 < (0 : Int64) → N = 0) := ⟨fun z => by rw [hN0, if_pos z], fun z => by rw [hN0, if_neg z]⟩
  have hNb : N ≤ 1 := by rw [hN0]; split <;> decide
  show own_Gl _ _ _ _ _ _ _ (s₁.setTop (mkF m 4 #[.val (.long q1), .second, .val (.int p2), .val (.int lo), .unset, .unset, .unset, .unset, .unset, .unset, .unset, .unset, .unset, .unset] []))
  refine own_st (fun _ k => XS.bipush X0.here hx rfl (hb hby at_4) k) ?_
  show own_Gl _ _ _ _ _ _ _ (s₁.setTop (mkF m 6 #[.val (.long q1), .second, .val (.int p2), .val (.int lo), .unset, .unset, .unset, .unset, .unset, .unset, .unset, .unset, .unset, .unset] [(.int (26 : Int32))]))
  obtain ⟨T1, h1, k1, X1, e1, E1, A1, st1⟩ := newP X0 hx hZ (hw _ (List.mem_of_getElem? (i := 0) rfl)) e0 (g := (mkF m 6 #[.val (.long q1), .second, .val (.int p2), .val (.int lo), .unset, .unset, .unset, .unset, .unset, .unset, .unset, .unset, .unset, .unset] [(.int (26 : Int32))])) rfl (hb hby at_6) rfl (by decide) (cap := 26) (by decide) (by decide) (by decide) (by decide)
  obtain ⟨b1, gb1⟩ : ∃ z, z = h0.size := ⟨_, rfl⟩
  rw [← gb1] at A1 st1
  refine own_st st1 ?_
  have Zs2 : n0 ≤ h1.size := Nat.le_trans Z0 E1.1
  have g_b1 : n0 ≤ b1 := Nat.le_trans Z0 (Nat.le_of_eq gb1.symm)
  have gh_b1 : h0.size ≤ b1 := Nat.le_trans (Keep.refl h0 []).1 (Nat.le_of_eq gb1.symm)
  have ne_oa_b1 : oa ≠ b1 := Nat.ne_of_lt (Nat.lt_of_lt_of_le V_oa.lt (Nat.le_of_eq gb1.symm))
  have ne_ta_b1 : ta ≠ b1 := Nat.ne_of_lt (Nat.lt_of_lt_of_le V_ta.lt (Nat.le_of_eq gb1.symm))
  have V_b1 : Arv Z h1 b1 k1 .char (26 : Int32) [(.int (0 : Int32)), (.int (0 : Int32)), (.int (0 : Int32)), (.int (0 : Int32)), (.int (0 : Int32)), (.int (0 : Int32)), (.int (0 : Int32)), (.int (0 : Int32)), (.int (0 : Int32)), (.int (0 : Int32)), (.int (0 : Int32)), (.int (0 : Int32)), (.int (0 : Int32)), (.int (0 : Int32)), (.int (0 : Int32)), (.int (0 : Int32)), (.int (0 : Int32)), (.int (0 : Int32)), (.int (0 : Int32)), (.int (0 : Int32)), (.int (0 : Int32)), (.int (0 : Int32)), (.int (0 : Int32)), (.int (0 : Int32)), (.int (0 : Int32)), (.int (0 : Int32))] (.int (0 : Int32)) := (Arv.new A1 (by decide)).pad (pad_rep [] (.int (0 : Int32)) 26)
  show own_Gl _ _ _ _ _ _ _ (T1.setTop (mkF m 8 #[.val (.long q1), .second, .val (.int p2), .val (.int lo), .unset, .unset, .unset, .unset, .unset, .unset, .unset, .unset, .unset, .unset] [(.ref b1)]))
  refine own_st (fun _ k => XS.astore X1.here hx rfl (hb hby at_8) rfl rfl (l' := #[.val (.long q1), .second, .val (.int p2), .val (.int lo), .val (.ref b1), .unset, .unset, .unset, .unset, .unset, .unset, .unset, .unset, .unset]) rfl k) ?_
  show own_Gl _ _ _ _ _ _ _ (T1.setTop (mkF m 10 #[.val (.long q1), .second, .val (.int p2), .val (.int lo), .val (.ref b1), .unset, .unset, .unset, .unset, .unset, .unset, .unset, .unset, .unset] []))
  refine own_st (fun _ k => XS.bipush X1.here hx rfl (hb hby at_10) k) ?_
  show own_Gl _ _ _ _ _ _ _ (T1.setTop (mkF m 12 #[.val (.long q1), .second, .val (.int p2), .val (.int lo), .val (.ref b1), .unset, .unset, .unset, .unset, .unset, .unset, .unset, .unset, .unset] [(.int (18 : Int32))]))
  have f4 := (V_oa.ext E1)
  have f5 := (V_ta.ext E1)
  have K6 : Keep h0 h1 [] := ((Keep.refl h0 []).ext E1)
  obtain ⟨T7, h7, k7, X7, e7, E7, A7, st7⟩ := newP X1 hx hZ (hw _ (List.mem_of_getElem? (i := 1) rfl)) e1 (g := (mkF m 12 #[.val (.long q1), .second, .val (.int p2), .val (.int lo), .val (.ref b1), .unset, .unset, .unset, .unset, .unset, .unset, .unset, .unset, .unset] [(.int (18 : Int32))])) rfl (hb hby at_12) rfl (by decide) (cap := 18) (by decide) (by decide) (by decide) (by decide)
  obtain ⟨b7, gb7⟩ : ∃ z, z = h1.size := ⟨_, rfl⟩
  rw [← gb7] at A7 st7
  refine own_st st7 ?_
  have Zs8 : n0 ≤ h7.size := Nat.le_trans Zs2 E7.1
  have g_b7 : n0 ≤ b7 := Nat.le_trans Zs2 (Nat.le_of_eq gb7.symm)
  have gh_b7 : h0.size ≤ b7 := Nat.le_trans K6.1 (Nat.le_of_eq gb7.symm)
  have ne_oa_b7 : oa ≠ b7 := Nat.ne_of_lt (Nat.lt_of_lt_of_le f4.lt (Nat.le_of_eq gb7.symm))
  have ne_ta_b7 : ta ≠ b7 := Nat.ne_of_lt (Nat.lt_of_lt_of_le f5.lt (Nat.le_of_eq gb7.symm))
  have ne_b1_b7 : b1 ≠ b7 := Nat.ne_of_lt (Nat.lt_of_lt_of_le V_b1.lt (Nat.le_of_eq gb7.symm))
  have V_b7 : Arv Z h7 b7 k7 .long (18 : Int32) [(.long (0 : Int64)), (.long (0 : Int64)), (.long (0 : Int64)), (.long (0 : Int64)), (.long (0 : Int64)), (.long (0 : Int64)), (.long (0 : Int64)), (.long (0 : Int64)), (.long (0 : Int64)), (.long (0 : Int64)), (.long (0 : Int64)), (.long (0 : Int64)), (.long (0 : Int64)), (.long (0 : Int64)), (.long (0 : Int64)), (.long (0 : Int64)), (.long (0 : Int64)), (.long (0 : Int64))] (.long (0 : Int64)) := (Arv.new A7 (by decide)).pad (pad_rep [] (.long (0 : Int64)) 18)
  show own_Gl _ _ _ _ _ _ _ (T7.setTop (mkF m 14 #[.val (.long q1), .second, .val (.int p2), .val (.int lo), .val (.ref b1), .unset, .unset, .unset, .unset, .unset, .unset, .unset, .unset, .unset] [(.ref b7)]))
  refine own_st (fun _ k => XS.dup X7.here hx rfl (hb hby at_14) rfl rfl k) ?_
  show own_Gl _ _ _ _ _ _ _ (T7.setTop (mkF m 15 #[.val (.long q1), .second, .val (.int p2), .val (.int lo), .val (.ref b1), .unset, .unset, .unset, .unset, .unset, .unset, .unset, .unset, .unset] [(.ref b7), (.ref b7)]))
  refine own_st (fun _ k => XS.iconst X7.here hx rfl (hb hby at_15) k) ?_
  show own_Gl _ _ _ _ _ _ _ (T7.setTop (mkF m 16 #[.val (.long q1), .second, .val (.int p2), .val (.int lo), .val (.ref b1), .unset, .unset, .unset, .unset, .unset, .unset, .unset, .unset, .unset] [(.int (0 : Int32)), (.ref b7), (.ref b7)]))
  refine own_st (fun _ k => XS.lconst X7.here hx rfl (hb hby at_16) k) ?_
  show own_Gl _ _ _ _ _ _ _ (T7.setTop (mkF m 17 #[.val (.long q1), .second, .val (.int p2), .val (.int lo), .val (.ref b1), .unset, .unset, .unset, .unset, .unset, .unset, .unset, .unset, .unset] [(.long (1 : Int64)), (.int (0 : Int32)), (.ref b7), (.ref b7)]))
  obtain ⟨cl10, Ar10, qq10, Ss10, Nn10, Hh10, Gg10⟩ := id V_b7
  have hin10 : ¬ ((0 : Int32) < 0 ∨ cl10.slots.size ≤ ((0 : Int32)).toNatClampNeg) := inb_of Ss10 ⟨by decide, by decide⟩
  obtain ⟨T10, h10, X10, e10, W10, st10⟩ := stJ X7 hx hZ e7 Ar10 (j := (0 : Int32)) hin10 (g := (mkF m 17 #[.val (.long q1), .second, .val (.int p2), .val (.int lo), .val (.ref b1), .unset, .unset, .unset, .unset, .unset, .unset, .unset, .unset, .unset] [(.long (1 : Int64)), (.int (0 : Int32)), (.ref b7), (.ref b7)])) rfl rfl (hb hby at_17)
  have N10 := Fr.snoc X10 N0 g_b7
  refine own_st st10 ?_
  have Zs11 : n0 ≤ h10.size := Nat.le_trans Zs8 (Keep.of_wr W10).1
  have Vw10 : Arv Z h10 b7 k7 .long (18 : Int32) [(.long (1 : Int64)), (.long (0 : Int64)), (.long (0 : Int64)), (.long (0 : Int64)), (.long (0 : Int64)), (.long (0 : Int64)), (.long (0 : Int64)), (.long (0 : Int64)), (.long (0 : Int64)), (.long (0 : Int64)), (.long (0 : Int64)), (.long (0 : Int64)), (.long (0 : Int64)), (.long (0 : Int64)), (.long (0 : Int64)), (.long (0 : Int64)), (.long (0 : Int64)), (.long (0 : Int64))] (.long (0 : Int64)) := Arv.set Ar10 qq10 Ss10 Nn10 Hh10 Gg10 rfl W10 0 (rfl) (Nat.le_of_ble_eq_true rfl)
  show own_Gl _ _ _ _ _ _ _ (T10.setTop (mkF m 18 #[.val (.long q1), .second, .val (.int p2), .val (.int lo), .val (.ref b1), .unset, .unset, .unset, .unset, .unset, .unset, .unset, .unset, .unset] [(.ref b7)]))
  refine own_st (fun _ k => XS.dup X10.here hx rfl (hb hby at_18) rfl rfl k) ?_
  show own_Gl _ _ _ _ _ _ _ (T10.setTop (mkF m 19 #[.val (.long q1), .second, .val (.int p2), .val (.int lo), .val (.ref b1), .unset, .unset, .unset, .unset, .unset, .unset, .unset, .unset, .unset] [(.ref b7), (.ref b7)]))
  refine own_st (fun _ k => XS.iconst X10.here hx rfl (hb hby at_19) k) ?_
  show own_Gl _ _ _ _ _ _ _ (T10.setTop (mkF m 20 #[.val (.long q1), .second, .val (.int p2), .val (.int lo), .val (.ref b1), .unset, .unset, .unset, .unset, .unset, .unset, .unset, .unset, .unset] [(.int (1 : Int32)), (.ref b7), (.ref b7)]))
  refine own_st (X10.ldc2Long hx hown (mvT hZ (hw _ (List.mem_of_getElem? (i := 2) rfl))) (g := (mkF m 20 #[.val (.long q1), .second, .val (.int p2), .val (.int lo), .val (.ref b1), .unset, .unset, .unset, .unset, .unset, .unset, .unset, .unset, .unset] [(.int (1 : Int32)), (.ref b7), (.ref b7)])) rfl (hb hby at_20)) ?_
  show own_Gl _ _ _ _ _ _ _ (T10.setTop (mkF m 23 #[.val (.long q1), .second, .val (.int p2), .val (.int lo), .val (.ref b1), .unset, .unset, .unset, .unset, .unset, .unset, .unset, .unset, .unset] [(.long (10 : Int64)), (.int (1 : Int32)), (.ref b7), (.ref b7)]))
  obtain ⟨cl12, Ar12, qq12, Ss12, Nn12, Hh12, Gg12⟩ := id Vw10
  have hin12 : ¬ ((1 : Int32) < 0 ∨ cl12.slots.size ≤ ((1 : Int32)).toNatClampNeg) := inb_of Ss12 ⟨by decide, by decide⟩
  obtain ⟨T12, h12, X12, e12, W12, st12⟩ := stJ X10 hx hZ e10 Ar12 (j := (1 : Int32)) hin12 (g := (mkF m 23 #[.val (.long q1), .second, .val (.int p2), .val (.int lo), .val (.ref b1), .unset, .unset, .unset, .unset, .unset, .unset, .unset, .unset, .unset] [(.long (10 : Int64)), (.int (1 : Int32)), (.ref b7), (.ref b7)])) rfl rfl (hb hby at_23)
  have N12 := Fr.snoc X12 N10 g_b7
  refine own_st st12 ?_
  have Zs13 : n0 ≤ h12.size := Nat.le_trans Zs11 (Keep.of_wr W12).1
  have Vw12 : Arv Z h12 b7 k7 .long (18 : Int32) [(.long (1 : Int64)), (.long (10 : Int64)), (.long (0 : Int64)), (.long (0 : Int64)), (.long (0 : Int64)), (.long (0 : Int64)), (.long (0 : Int64)), (.long (0 : Int64)), (.long (0 : Int64)), (.long (0 : Int64)), (.long (0 : Int64)), (.long (0 : Int64)), (.long (0 : Int64)), (.long (0 : Int64)), (.long (0 : Int64)), (.long (0 : Int64)), (.long (0 : Int64)), (.long (0 : Int64))] (.long (0 : Int64)) := Arv.set Ar12 qq12 Ss12 Nn12 Hh12 Gg12 rfl W12 1 (rfl) (Nat.le_of_ble_eq_true rfl)
  show own_Gl _ _ _ _ _ _ _ (T12.setTop (mkF m 24 #[.val (.long q1), .second, .val (.int p2), .val (.int lo), .val (.ref b1), .unset, .unset, .unset, .unset, .unset, .unset, .unset, .unset, .unset] [(.ref b7)]))
  refine own_st (fun _ k => XS.dup X12.here hx rfl (hb hby at_24) rfl rfl k) ?_
  show own_Gl _ _ _ _ _ _ _ (T12.setTop (mkF m 25 #[.val (.long q1), .second, .val (.int p2), .val (.int lo), .val (.ref b1), .unset, .unset, .unset, .unset, .unset, .unset, .unset, .unset, .unset] [(.ref b7), (.ref b7)]))
  refine own_st (fun _ k => XS.iconst X12.here hx rfl (hb hby at_25) k) ?_
  show own_Gl _ _ _ _ _ _ _ (T12.setTop (mkF m 26 #[.val (.long q1), .second, .val (.int p2), .val (.int lo), .val (.ref b1), .unset, .unset, .unset, .unset, .unset, .unset, .unset, .unset, .unset] [(.int (2 : Int32)), (.ref b7), (.ref b7)]))
  refine own_st (X12.ldc2Long hx hown (mvT hZ (hw _ (List.mem_of_getElem? (i := 3) rfl))) (g := (mkF m 26 #[.val (.long q1), .second, .val (.int p2), .val (.int lo), .val (.ref b1), .unset, .unset, .unset, .unset, .unset, .unset, .unset, .unset, .unset] [(.int (2 : Int32)), (.ref b7), (.ref b7)])) rfl (hb hby at_26)) ?_
  show own_Gl _ _ _ _ _ _ _ (T12.setTop (mkF m 29 #[.val (.long q1), .second, .val (.int p2), .val (.int lo), .val (.ref b1), .unset, .unset, .unset, .unset, .unset, .unset, .unset, .unset, .unset] [(.long (100 : Int64)), (.int (2 : Int32)), (.ref b7), (.ref b7)]))
  obtain ⟨cl14, Ar14, qq14, Ss14, Nn14, Hh14, Gg14⟩ := id Vw12
  have hin14 : ¬ ((2 : Int32) < 0 ∨ cl14.slots.size ≤ ((2 : Int32)).toNatClampNeg) := inb_of Ss14 ⟨by decide, by decide⟩
  obtain ⟨T14, h14, X14, e14, W14, st14⟩ := stJ X12 hx hZ e12 Ar14 (j := (2 : Int32)) hin14 (g := (mkF m 29 #[.val (.long q1), .second, .val (.int p2), .val (.int lo), .val (.ref b1), .unset, .unset, .unset, .unset, .unset, .unset, .unset, .unset, .unset] [(.long (100 : Int64)), (.int (2 : Int32)), (.ref b7), (.ref b7)])) rfl rfl (hb hby at_29)
  have N14 := Fr.snoc X14 N12 g_b7
  refine own_st st14 ?_
  have Zs15 : n0 ≤ h14.size := Nat.le_trans Zs13 (Keep.of_wr W14).1
  have Vw14 : Arv Z h14 b7 k7 .long (18 : Int32) [(.long (1 : Int64)), (.long (10 : Int64)), (.long (100 : Int64)), (.long (0 : Int64)), (.long (0 : Int64)), (.long (0 : Int64)), (.long (0 : Int64)), (.long (0 : Int64)), (.long (0 : Int64)), (.long (0 : Int64)), (.long (0 : Int64)), (.long (0 : Int64)), (.long (0 : Int64)), (.long (0 : Int64)), (.long (0 : Int64)), (.long (0 : Int64)), (.long (0 : Int64)), (.long (0 : Int64))] (.long (0 : Int64)) := Arv.set Ar14 qq14 Ss14 Nn14 Hh14 Gg14 rfl W14 2 (rfl) (Nat.le_of_ble_eq_true rfl)
  show own_Gl _ _ _ _ _ _ _ (T14.setTop (mkF m 30 #[.val (.long q1), .second, .val (.int p2), .val (.int lo), .val (.ref b1), .unset, .unset, .unset, .unset, .unset, .unset, .unset, .unset, .unset] [(.ref b7)]))
  refine own_st (fun _ k => XS.dup X14.here hx rfl (hb hby at_30) rfl rfl k) ?_
  show own_Gl _ _ _ _ _ _ _ (T14.setTop (mkF m 31 #[.val (.long q1), .second, .val (.int p2), .val (.int lo), .val (.ref b1), .unset, .unset, .unset, .unset, .unset, .unset, .unset, .unset, .unset] [(.ref b7), (.ref b7)]))
  refine own_st (fun _ k => XS.iconst X14.here hx rfl (hb hby at_31) k) ?_
  show own_Gl _ _ _ _ _ _ _ (T14.setTop (mkF m 32 #[.val (.long q1), .second, .val (.int p2), .val (.int lo), .val (.ref b1), .unset, .unset, .unset, .unset, .unset, .unset, .unset, .unset, .unset] [(.int (3 : Int32)), (.ref b7), (.ref b7)]))
  refine own_st (X14.ldc2Long hx hown (mvT hZ (hw _ (List.mem_of_getElem? (i := 4) rfl))) (g := (mkF m 32 #[.val (.long q1), .second, .val (.int p2), .val (.int lo), .val (.ref b1), .unset, .unset, .unset, .unset, .unset, .unset, .unset, .unset, .unset] [(.int (3 : Int32)), (.ref b7), (.ref b7)])) rfl (hb hby at_32)) ?_
  show own_Gl _ _ _ _ _ _ _ (T14.setTop (mkF m 35 #[.val (.long q1), .second, .val (.int p2), .val (.int lo), .val (.ref b1), .unset, .unset, .unset, .unset, .unset, .unset, .unset, .unset, .unset] [(.long (1000 : Int64)), (.int (3 : Int32)), (.ref b7), (.ref b7)]))
  obtain ⟨cl16, Ar16, qq16, Ss16, Nn16, Hh16, Gg16⟩ := id Vw14
  have hin16 : ¬ ((3 : Int32) < 0 ∨ cl16.slots.size ≤ ((3 : Int32)).toNatClampNeg) := inb_of Ss16 ⟨by decide, by decide⟩
  obtain ⟨T16, h16, X16, e16, W16, st16⟩ := stJ X14 hx hZ e14 Ar16 (j := (3 : Int32)) hin16 (g := (mkF m 35 #[.val (.long q1), .second, .val (.int p2), .val (.int lo), .val (.ref b1), .unset, .unset, .unset, .unset, .unset, .unset, .unset, .unset, .unset] [(.long (1000 : Int64)), (.int (3 : Int32)), (.ref b7), (.ref b7)])) rfl rfl (hb hby at_35)
  have N16 := Fr.snoc X16 N14 g_b7
  refine own_st st16 ?_
  have Zs17 : n0 ≤ h16.size := Nat.le_trans Zs15 (Keep.of_wr W16).1
  have Vw16 : Arv Z h16 b7 k7 .long (18 : Int32) [(.long (1 : Int64)), (.long (10 : Int64)), (.long (100 : Int64)), (.long (1000 : Int64)), (.long (0 : Int64)), (.long (0 : Int64)), (.long (0 : Int64)), (.long (0 : Int64)), (.long (0 : Int64)), (.long (0 : Int64)), (.long (0 : Int64)), (.long (0 : Int64)), (.long (0 : Int64)), (.long (0 : Int64)), (.long (0 : Int64)), (.long (0 : Int64)), (.long (0 : Int64)), (.long (0 : Int64))] (.long (0 : Int64)) := Arv.set Ar16 qq16 Ss16 Nn16 Hh16 Gg16 rfl W16 3 (rfl) (Nat.le_of_ble_eq_true rfl)
  show own_Gl _ _ _ _ _ _ _ (T16.setTop (mkF m 36 #[.val (.long q1), .second, .val (.int p2), .val (.int lo), .val (.ref b1), .unset, .unset, .unset, .unset, .unset, .unset, .unset, .unset, .unset] [(.ref b7)]))
  refine own_st (fun _ k => XS.dup X16.here hx rfl (hb hby at_36) rfl rfl k) ?_
  show own_Gl _ _ _ _ _ _ _ (T16.setTop (mkF m 37 #[.val (.long q1), .second, .val (.int p2), .val (.int lo), .val (.ref b1), .unset, .unset, .unset, .unset, .unset, .unset, .unset, .unset, .unset] [(.ref b7), (.ref b7)]))
  refine own_st (fun _ k => XS.iconst X16.here hx rfl (hb hby at_37) k) ?_
  show own_Gl _ _ _ _ _ _ _ (T16.setTop (mkF m 38 #[.val (.long q1), .second, .val (.int p2), .val (.int lo), .val (.ref b1), .unset, .unset, .unset, .unset, .unset, .unset, .unset, .unset, .unset] [(.int (4 : Int32)), (.ref b7), (.ref b7)]))
  refine own_st (X16.ldc2Long hx hown (mvT hZ (hw _ (List.mem_of_getElem? (i := 5) rfl))) (g := (mkF m 38 #[.val (.long q1), .second, .val (.int p2), .val (.int lo), .val (.ref b1), .unset, .unset, .unset, .unset, .unset, .unset, .unset, .unset, .unset] [(.int (4 : Int32)), (.ref b7), (.ref b7)])) rfl (hb hby at_38)) ?_
  show own_Gl _ _ _ _ _ _ _ (T16.setTop (mkF m 41 #[.val (.long q1), .second, .val (.int p2), .val (.int lo), .val (.ref b1), .unset, .unset, .unset, .unset, .unset, .unset, .unset, .unset, .unset] [(.long (10000 : Int64)), (.int (4 : Int32)), (.ref b7), (.ref b7)]))
  obtain ⟨cl18, Ar18, qq18, Ss18, Nn18, Hh18, Gg18⟩ := id Vw16
  have hin18 : ¬ ((4 : Int32) < 0 ∨ cl18.slots.size ≤ ((4 : Int32)).toNatClampNeg) := inb_of Ss18 ⟨by decide, by decide⟩
  obtain ⟨T18, h18, X18, e18, W18, st18⟩ := stJ X16 hx hZ e16 Ar18 (j := (4 : Int32)) hin18 (g := (mkF m 41 #[.val (.long q1), .second, .val (.int p2), .val (.int lo), .val (.ref b1), .unset, .unset, .unset, .unset, .unset, .unset, .unset, .unset, .unset] [(.long (10000 : Int64)), (.int (4 : Int32)), (.ref b7), (.ref b7)])) rfl rfl (hb hby at_41)
  have N18 := Fr.snoc X18 N16 g_b7
  refine own_st st18 ?_
  have Zs19 : n0 ≤ h18.size := Nat.le_trans Zs17 (Keep.of_wr W18).1
  have Vw18 : Arv Z h18 b7 k7 .long (18 : Int32) [(.long (1 : Int64)), (.long (10 : Int64)), (.long (100 : Int64)), (.long (1000 : Int64)), (.long (10000 : Int64)), (.long (0 : Int64)), (.long (0 : Int64)), (.long (0 : Int64)), (.long (0 : Int64)), (.long (0 : Int64)), (.long (0 : Int64)), (.long (0 : Int64)), (.long (0 : Int64)), (.long (0 : Int64)), (.long (0 : Int64)), (.long (0 : Int64)), (.long (0 : Int64)), (.long (0 : Int64))] (.long (0 : Int64)) := Arv.set Ar18 qq18 Ss18 Nn18 Hh18 Gg18 rfl W18 4 (rfl) (Nat.le_of_ble_eq_true rfl)
  show own_Gl _ _ _ _ _ _ _ (T18.setTop (mkF m 42 #[.val (.long q1), .second, .val (.int p2), .val (.int lo), .val (.ref b1), .unset, .unset, .unset, .unset, .unset, .unset, .unset, .unset, .unset] [(.ref b7)]))
  refine own_st (fun _ k => XS.dup X18.here hx rfl (hb hby at_42) rfl rfl k) ?_
  show own_Gl _ _ _ _ _ _ _ (T18.setTop (mkF m 43 #[.val (.long q1), .second, .val (.int p2), .val (.int lo), .val (.ref b1), .unset, .unset, .unset, .unset, .unset, .unset, .unset, .unset, .unset] [(.ref b7), (.ref b7)]))
  refine own_st (fun _ k => XS.iconst X18.here hx rfl (hb hby at_43) k) ?_
  show own_Gl _ _ _ _ _ _ _ (T18.setTop (mkF m 44 #[.val (.long q1), .second, .val (.int p2), .val (.int lo), .val (.ref b1), .unset, .unset, .unset, .unset, .unset, .unset, .unset, .unset, .unset] [(.int (5 : Int32)), (.ref b7), (.ref b7)]))
  refine own_st (X18.ldc2Long hx hown (mvT hZ (hw _ (List.mem_of_getElem? (i := 6) rfl))) (g := (mkF m 44 #[.val (.long q1), .second, .val (.int p2), .val (.int lo), .val (.ref b1), .unset, .unset, .unset, .unset, .unset, .unset, .unset, .unset, .unset] [(.int (5 : Int32)), (.ref b7), (.ref b7)])) rfl (hb hby at_44)) ?_
  show own_Gl _ _ _ _ _ _ _ (T18.setTop (mkF m 47 #[.val (.long q1), .second, .val (.int p2), .val (.int lo), .val (.ref b1), .unset, .unset, .unset, .unset, .unset, .unset, .unset, .unset, .unset] [(.long (100000 : Int64)), (.int (5 : Int32)), (.ref b7), (.ref b7)]))
  obtain ⟨cl20, Ar20, qq20, Ss20, Nn20, Hh20, Gg20⟩ := id Vw18
  have hin20 : ¬ ((5 : Int32) < 0 ∨ cl20.slots.size ≤ ((5 : Int32)).toNatClampNeg) := inb_of Ss20 ⟨by decide, by decide⟩
  obtain ⟨T20, h20, X20, e20, W20, st20⟩ := stJ X18 hx hZ e18 Ar20 (j := (5 : Int32)) hin20 (g := (mkF m 47 #[.val (.long q1), .second, .val (.int p2), .val (.int lo), .val (.ref b1), .unset, .unset, .unset, .unset, .unset, .unset, .unset, .unset, .unset] [(.long (100000 : Int64)), (.int (5 : Int32)), (.ref b7), (.ref b7)])) rfl rfl (hb hby at_47)
  have N20 := Fr.snoc X20 N18 g_b7
  refine own_st st20 ?_
  have Zs21 : n0 ≤ h20.size := Nat.le_trans Zs19 (Keep.of_wr W20).1
  have Vw20 : Arv Z h20 b7 k7 .long (18 : Int32) [(.long (1 : Int64)), (.long (10 : Int64)), (.long (100 : Int64)), (.long (1000 : Int64)), (.long (10000 : Int64)), (.long (100000 : Int64)), (.long (0 : Int64)), (.long (0 : Int64)), (.long (0 : Int64)), (.long (0 : Int64)), (.long (0 : Int64)), (.long (0 : Int64)), (.long (0 : Int64)), (.long (0 : Int64)), (.long (0 : Int64)), (.long (0 : Int64)), (.long (0 : Int64)), (.long (0 : Int64))] (.long (0 : Int64)) := Arv.set Ar20 qq20 Ss20 Nn20 Hh20 Gg20 rfl W20 5 (rfl) (Nat.le_of_ble_eq_true rfl)
  show own_Gl _ _ _ _ _ _ _ (T20.setTop (mkF m 48 #[.val (.long q1), .second, .val (.int p2), .val (.int lo), .val (.ref b1), .unset, .unset, .unset, .unset, .unset, .unset, .unset, .unset, .unset] [(.ref b7)]))
  refine own_st (fun _ k => XS.dup X20.here hx rfl (hb hby at_48) rfl rfl k) ?_
  show own_Gl _ _ _ _ _ _ _ (T20.setTop (mkF m 49 #[.val (.long q1), .second, .val (.int p2), .val (.int lo), .val (.ref b1), .unset, .unset, .unset, .unset, .unset, .unset, .unset, .unset, .unset] [(.ref b7), (.ref b7)]))
  refine own_st (fun _ k => XS.bipush X20.here hx rfl (hb hby at_49) k) ?_
  show own_Gl _ _ _ _ _ _ _ (T20.setTop (mkF m 51 #[.val (.long q1), .second, .val (.int p2), .val (.int lo), .val (.ref b1), .unset, .unset, .unset, .unset, .unset, .unset, .unset, .unset, .unset] [(.int (6 : Int32)), (.ref b7), (.ref b7)]))
  refine own_st (X20.ldc2Long hx hown (mvT hZ (hw _ (List.mem_of_getElem? (i := 7) rfl))) (g := (mkF m 51 #[.val (.long q1), .second, .val (.int p2), .val (.int lo), .val (.ref b1), .unset, .unset, .unset, .unset, .unset, .unset, .unset, .unset, .unset] [(.int (6 : Int32)), (.ref b7), (.ref b7)])) rfl (hb hby at_51)) ?_
  show own_Gl _ _ _ _ _ _ _ (T20.setTop (mkF m 54 #[.val (.long q1), .second, .val (.int p2), .val (.int lo), .val (.ref b1), .unset, .unset, .unset, .unset, .unset, .unset, .unset, .unset, .unset] [(.long (1000000 : Int64)), (.int (6 : Int32)), (.ref b7), (.ref b7)]))
  obtain ⟨cl22, Ar22, qq22, Ss22, Nn22, Hh22, Gg22⟩ := id Vw20
  have hin22 : ¬ ((6 : Int32) < 0 ∨ cl22.slots.size ≤ ((6 : Int32)).toNatClampNeg) := inb_of Ss22 ⟨by decide, by decide⟩
  obtain ⟨T22, h22, X22, e22, W22, st22⟩ := stJ X20 hx hZ e20 Ar22 (j := (6 : Int32)) hin22 (g := (mkF m 54 #[.val (.long q1), .second, .val (.int p2), .val (.int lo), .val (.ref b1), .unset, .unset, .unset, .unset, .unset, .unset, .unset, .unset, .unset] [(.long (1000000 : Int64)), (.int (6 : Int32)), (.ref b7), (.ref b7)])) rfl rfl (hb hby at_54)
  have N22 := Fr.snoc X22 N20 g_b7
  refine own_st st22 ?_
  have Zs23 : n0 ≤ h22.size := Nat.le_trans Zs21 (Keep.of_wr W22).1
  have Vw22 : Arv Z h22 b7 k7 .long (18 : Int32) [(.long (1 : Int64)), (.long (10 : Int64)), (.long (100 : Int64)), (.long (1000 : Int64)), (.long (10000 : Int64)), (.long (100000 : Int64)), (.long (1000000 : Int64)), (.long (0 : Int64)), (.long (0 : Int64)), (.long (0 : Int64)), (.long (0 : Int64)), (.long (0 : Int64)), (.long (0 : Int64)), (.long (0 : Int64)), (.long (0 : Int64)), (.long (0 : Int64)), (.long (0 : Int64)), (.long (0 : Int64))] (.long (0 : Int64)) := Arv.set Ar22 qq22 Ss22 Nn22 Hh22 Gg22 rfl W22 6 (rfl) (Nat.le_of_ble_eq_true rfl)
  show own_Gl _ _ _ _ _ _ _ (T22.setTop (mkF m 55 #[.val (.long q1), .second, .val (.int p2), .val (.int lo), .val (.ref b1), .unset, .unset, .unset, .unset, .unset, .unset, .unset, .unset, .unset] [(.ref b7)]))
  refine own_st (fun _ k => XS.dup X22.here hx rfl (hb hby at_55) rfl rfl k) ?_
  show own_Gl _ _ _ _ _ _ _ (T22.setTop (mkF m 56 #[.val (.long q1), .second, .val (.int p2), .val (.int lo), .val (.ref b1), .unset, .unset, .unset, .unset, .unset, .unset, .unset, .unset, .unset] [(.ref b7), (.ref b7)]))
  refine own_st (fun _ k => XS.bipush X22.here hx rfl (hb hby at_56) k) ?_
  show own_Gl _ _ _ _ _ _ _ (T22.setTop (mkF m 58 #[.val (.long q1), .second, .val (.int p2), .val (.int lo), .val (.ref b1), .unset, .unset, .unset, .unset, .unset, .unset, .unset, .unset, .unset] [(.int (7 : Int32)), (.ref b7), (.ref b7)]))
  refine own_st (X22.ldc2Long hx hown (mvT hZ (hw _ (List.mem_of_getElem? (i := 8) rfl))) (g := (mkF m 58 #[.val (.long q1), .second, .val (.int p2), .val (.int lo), .val (.ref b1), .unset, .unset, .unset, .unset, .unset, .unset, .unset, .unset, .unset] [(.int (7 : Int32)), (.ref b7), (.ref b7)])) rfl (hb hby at_58)) ?_
  show own_Gl _ _ _ _ _ _ _ (T22.setTop (mkF m 61 #[.val (.long q1), .second, .val (.int p2), .val (.int lo), .val (.ref b1), .unset, .unset, .unset, .unset, .unset, .unset, .unset, .unset, .unset] [(.long (10000000 : Int64)), (.int (7 : Int32)), (.ref b7), (.ref b7)]))
  obtain ⟨cl24, Ar24, qq24, Ss24, Nn24, Hh24, Gg24⟩ := id Vw22
  have hin24 : ¬ ((7 : Int32) < 0 ∨ cl24.slots.size ≤ ((7 : Int32)).toNatClampNeg) := inb_of Ss24 ⟨by decide, by decide⟩
  obtain ⟨T24, h24, X24, e24, W24, st24⟩ := stJ X22 hx hZ e22 Ar24 (j := (7 : Int32)) hin24 (g := (mkF m 61 #[.val (.long q1), .second, .val (.int p2), .val (.int lo), .val (.ref b1), .unset, .unset, .unset, .unset, .unset, .unset, .unset, .unset, .unset] [(.long (10000000 : Int64)), (.int (7 : Int32)), (.ref b7), (.ref b7)])) rfl rfl (hb hby at_61)
  have N24 := Fr.snoc X24 N22 g_b7
  refine own_st st24 ?_
  have Zs25 : n0 ≤ h24.size := Nat.le_trans Zs23 (Keep.of_wr W24).1
  have Vw24 : Arv Z h24 b7 k7 .long (18 : Int32) [(.long (1 : Int64)), (.long (10 : Int64)), (.long (100 : Int64)), (.long (1000 : Int64)), (.long (10000 : Int64)), (.long (100000 : Int64)), (.long (1000000 : Int64)), (.long (10000000 : Int64)), (.long (0 : Int64)), (.long (0 : Int64)), (.long (0 : Int64)), (.long (0 : Int64)), (.long (0 : Int64)), (.long (0 : Int64)), (.long (0 : Int64)), (.long (0 : Int64)), (.long (0 : Int64)), (.long (0 : Int64))] (.long (0 : Int64)) := Arv.set Ar24 qq24 Ss24 Nn24 Hh24 Gg24 rfl W24 7 (rfl) (Nat.le_of_ble_eq_true rfl)
  show own_Gl _ _ _ _ _ _ _ (T24.setTop (mkF m 62 #[.val (.long q1), .second, .val (.int p2), .val (.int lo), .val (.ref b1), .unset, .unset, .unset, .unset, .unset, .unset, .unset, .unset, .unset] [(.ref b7)]))
  refine own_st (fun _ k => XS.dup X24.here hx rfl (hb hby at_62) rfl rfl k) ?_
  show own_Gl _ _ _ _ _ _ _ (T24.setTop (mkF m 63 #[.val (.long q1), .second, .val (.int p2), .val (.int lo), .val (.ref b1), .unset, .unset, .unset, .unset, .unset, .unset, .unset, .unset, .unset] [(.ref b7), (.ref b7)]))
  refine own_st (fun _ k => XS.bipush X24.here hx rfl (hb hby at_63) k) ?_
  show own_Gl _ _ _ _ _ _ _ (T24.setTop (mkF m 65 #[.val (.long q1), .second, .val (.int p2), .val (.int lo), .val (.ref b1), .unset, .unset, .unset, .unset, .unset, .unset, .unset, .unset, .unset] [(.int (8 : Int32)), (.ref b7), (.ref b7)]))
  refine own_st (X24.ldc2Long hx hown (mvT hZ (hw _ (List.mem_of_getElem? (i := 9) rfl))) (g := (mkF m 65 #[.val (.long q1), .second, .val (.int p2), .val (.int lo), .val (.ref b1), .unset, .unset, .unset, .unset, .unset, .unset, .unset, .unset, .unset] [(.int (8 : Int32)), (.ref b7), (.ref b7)])) rfl (hb hby at_65)) ?_
  show own_Gl _ _ _ _ _ _ _ (T24.setTop (mkF m 68 #[.val (.long q1), .second, .val (.int p2), .val (.int lo), .val (.ref b1), .unset, .unset, .unset, .unset, .unset, .unset, .unset, .unset, .unset] [(.long (100000000 : Int64)), (.int (8 : Int32)), (.ref b7), (.ref b7)]))
  obtain ⟨cl26, Ar26, qq26, Ss26, Nn26, Hh26, Gg26⟩ := id Vw24
  have hin26 : ¬ ((8 : Int32) < 0 ∨ cl26.slots.size ≤ ((8 : Int32)).toNatClampNeg) := inb_of Ss26 ⟨by decide, by decide⟩
  obtain ⟨T26, h26, X26, e26, W26, st26⟩ := stJ X24 hx hZ e24 Ar26 (j := (8 : Int32)) hin26 (g := (mkF m 68 #[.val (.long q1), .second, .val (.int p2), .val (.int lo), .val (.ref b1), .unset, .unset, .unset, .unset, .unset, .unset, .unset, .unset, .unset] [(.long (100000000 : Int64)), (.int (8 : Int32)), (.ref b7), (.ref b7)])) rfl rfl (hb hby at_68)
  have N26 := Fr.snoc X26 N24 g_b7
  refine own_st st26 ?_
  have Zs27 : n0 ≤ h26.size := Nat.le_trans Zs25 (Keep.of_wr W26).1
  have Vw26 : Arv Z h26 b7 k7 .long (18 : Int32) [(.long (1 : Int64)), (.long (10 : Int64)), (.long (100 : Int64)), (.long (1000 : Int64)), (.long (10000 : Int64)), (.long (100000 : Int64)), (.long (1000000 : Int64)), (.long (10000000 : Int64)), (.long (100000000 : Int64)), (.long (0 : Int64)), (.long (0 : Int64)), (.long (0 : Int64)), (.long (0 : Int64)), (.long (0 : Int64)), (.long (0 : Int64)), (.long (0 : Int64)), (.long (0 : Int64)), (.long (0 : Int64))] (.long (0 : Int64)) := Arv.set Ar26 qq26 Ss26 Nn26 Hh26 Gg26 rfl W26 8 (rfl) (Nat.le_of_ble_eq_true rfl)
  show own_Gl _ _ _ _ _ _ _ (T26.setTop (mkF m 69 #[.val (.long q1), .second, .val (.int p2), .val (.int lo), .val (.ref b1), .unset, .unset, .unset, .unset, .unset, .unset, .unset, .unset, .unset] [(.ref b7)]))
  refine own_st (fun _ k => XS.dup X26.here hx rfl (hb hby at_69) rfl rfl k) ?_
  show own_Gl _ _ _ _ _ _ _ (T26.setTop (mkF m 70 #[.val (.long q1), .second, .val (.int p2), .val (.int lo), .val (.ref b1), .unset, .unset, .unset, .unset, .unset, .unset, .unset, .unset, .unset] [(.ref b7), (.ref b7)]))
  refine own_st (fun _ k => XS.bipush X26.here hx rfl (hb hby at_70) k) ?_
  show own_Gl _ _ _ _ _ _ _ (T26.setTop (mkF m 72 #[.val (.long q1), .second, .val (.int p2), .val (.int lo), .val (.ref b1), .unset, .unset, .unset, .unset, .unset, .unset, .unset, .unset, .unset] [(.int (9 : Int32)), (.ref b7), (.ref b7)]))
  refine own_st (X26.ldc2Long hx hown (mvT hZ (hw _ (List.mem_of_getElem? (i := 10) rfl))) (g := (mkF m 72 #[.val (.long q1), .second, .val (.int p2), .val (.int lo), .val (.ref b1), .unset, .unset, .unset, .unset, .unset, .unset, .unset, .unset, .unset] [(.int (9 : Int32)), (.ref b7), (.ref b7)])) rfl (hb hby at_72)) ?_
  show own_Gl _ _ _ _ _ _ _ (T26.setTop (mkF m 75 #[.val (.long q1), .second, .val (.int p2), .val (.int lo), .val (.ref b1), .unset, .unset, .unset, .unset, .unset, .unset, .unset, .unset, .unset] [(.long (1000000000 : Int64)), (.int (9 : Int32)), (.ref b7), (.ref b7)]))
  obtain ⟨cl28, Ar28, qq28, Ss28, Nn28, Hh28, Gg28⟩ := id Vw26
  have hin28 : ¬ ((9 : Int32) < 0 ∨ cl28.slots.size ≤ ((9 : Int32)).toNatClampNeg) := inb_of Ss28 ⟨by decide, by decide⟩
  obtain ⟨T28, h28, X28, e28, W28, st28⟩ := stJ X26 hx hZ e26 Ar28 (j := (9 : Int32)) hin28 (g := (mkF m 75 #[.val (.long q1), .second, .val (.int p2), .val (.int lo), .val (.ref b1), .unset, .unset, .unset, .unset, .unset, .unset, .unset, .unset, .unset] [(.long (1000000000 : Int64)), (.int (9 : Int32)), (.ref b7), (.ref b7)])) rfl rfl (hb hby at_75)
  have N28 := Fr.snoc X28 N26 g_b7
  refine own_st st28 ?_
  have Zs29 : n0 ≤ h28.size := Nat.le_trans Zs27 (Keep.of_wr W28).1
  have Vw28 : Arv Z h28 b7 k7 .long (18 : Int32) [(.long (1 : Int64)), (.long (10 : Int64)), (.long (100 : Int64)), (.long (1000 : Int64)), (.long (10000 : Int64)), (.long (100000 : Int64)), (.long (1000000 : Int64)), (.long (10000000 : Int64)), (.long (100000000 : Int64)), (.long (1000000000 : Int64)), (.long (0 : Int64)), (.long (0 : Int64)), (.long (0 : Int64)), (.long (0 : Int64)), (.long (0 : Int64)), (.long (0 : Int64)), (.long (0 : Int64)), (.long (0 : Int64))] (.long (0 : Int64)) := Arv.set Ar28 qq28 Ss28 Nn28 Hh28 Gg28 rfl W28 9 (rfl) (Nat.le_of_ble_eq_true rfl)
  show own_Gl _ _ _ _ _ _ _ (T28.setTop (mkF m 76 #[.val (.long q1), .second, .val (.int p2), .val (.int lo), .val (.ref b1), .unset, .unset, .unset, .unset, .unset, .unset, .unset, .unset, .unset] [(.ref b7)]))
  refine own_st (fun _ k => XS.dup X28.here hx rfl (hb hby at_76) rfl rfl k) ?_
  show own_Gl _ _ _ _ _ _ _ (T28.setTop (mkF m 77 #[.val (.long q1), .second, .val (.int p2), .val (.int lo), .val (.ref b1), .unset, .unset, .unset, .unset, .unset, .unset, .unset, .unset, .unset] [(.ref b7), (.ref b7)]))
  refine own_st (fun _ k => XS.bipush X28.here hx rfl (hb hby at_77) k) ?_
  show own_Gl _ _ _ _ _ _ _ (T28.setTop (mkF m 79 #[.val (.long q1), .second, .val (.int p2), .val (.int lo), .val (.ref b1), .unset, .unset, .unset, .unset, .unset, .unset, .unset, .unset, .unset] [(.int (10 : Int32)), (.ref b7), (.ref b7)]))
  refine own_st (X28.ldc2Long hx hown (mvT hZ (hw _ (List.mem_of_getElem? (i := 11) rfl))) (g := (mkF m 79 #[.val (.long q1), .second, .val (.int p2), .val (.int lo), .val (.ref b1), .unset, .unset, .unset, .unset, .unset, .unset, .unset, .unset, .unset] [(.int (10 : Int32)), (.ref b7), (.ref b7)])) rfl (hb hby at_79)) ?_
  show own_Gl _ _ _ _ _ _ _ (T28.setTop (mkF m 82 #[.val (.long q1), .second, .val (.int p2), .val (.int lo), .val (.ref b1), .unset, .unset, .unset, .unset, .unset, .unset, .unset, .unset, .unset] [(.long (10000000000 : Int64)), (.int (10 : Int32)), (.ref b7), (.ref b7)]))
  obtain ⟨cl30, Ar30, qq30, Ss30, Nn30, Hh30, Gg30⟩ := id Vw28
  have hin30 : ¬ ((10 : Int32) < 0 ∨ cl30.slots.size ≤ ((10 : Int32)).toNatClampNeg) := inb_of Ss30 ⟨by decide, by decide⟩
  obtain ⟨T30, h30, X30, e30, W30, st30⟩ := stJ X28 hx hZ e28 Ar30 (j := (10 : Int32)) hin30 (g := (mkF m 82 #[.val (.long q1), .second, .val (.int p2), .val (.int lo), .val (.ref b1), .unset, .unset, .unset, .unset, .unset, .unset, .unset, .unset, .unset] [(.long (10000000000 : Int64)), (.int (10 : Int32)), (.ref b7), (.ref b7)])) rfl rfl (hb hby at_82)
  have N30 := Fr.snoc X30 N28 g_b7
  refine own_st st30 ?_
  have Zs31 : n0 ≤ h30.size := Nat.le_trans Zs29 (Keep.of_wr W30).1
  have Vw30 : Arv Z h30 b7 k7 .long (18 : Int32) [(.long (1 : Int64)), (.long (10 : Int64)), (.long (100 : Int64)), (.long (1000 : Int64)), (.long (10000 : Int64)), (.long (100000 : Int64)), (.long (1000000 : Int64)), (.long (10000000 : Int64)), (.long (100000000 : Int64)), (.long (1000000000 : Int64)), (.long (10000000000 : Int64)), (.long (0 : Int64)), (.long (0 : Int64)), (.long (0 : Int64)), (.long (0 : Int64)), (.long (0 : Int64)), (.long (0 : Int64)), (.long (0 : Int64))] (.long (0 : Int64)) := Arv.set Ar30 qq30 Ss30 Nn30 Hh30 Gg30 rfl W30 10 (rfl) (Nat.le_of_ble_eq_true rfl)
  show own_Gl _ _ _ _ _ _ _ (T30.setTop (mkF m 83 #[.val (.long q1), .second, .val (.int p2), .val (.int lo), .val (.ref b1), .unset, .unset, .unset, .unset, .unset, .unset, .unset, .unset, .unset] [(.ref b7)]))
  refine own_st (fun _ k => XS.dup X30.here hx rfl (hb hby at_83) rfl rfl k) ?_
  show own_Gl _ _ _ _ _ _ _ (T30.setTop (mkF m 84 #[.val (.long q1), .second, .val (.int p2), .val (.int lo), .val (.ref b1), .unset, .unset, .unset, .unset, .unset, .unset, .unset, .unset, .unset] [(.ref b7), (.ref b7)]))
  refine own_st (fun _ k => XS.bipush X30.here hx rfl (hb hby at_84) k) ?_
  show own_Gl _ _ _ _ _ _ _ (T30.setTop (mkF m 86 #[.val (.long q1), .second, .val (.int p2), .val (.int lo), .val (.ref b1), .unset, .unset, .unset, .unset, .unset, .unset, .unset, .unset, .unset] [(.int (11 : Int32)), (.ref b7), (.ref b7)]))
  refine own_st (X30.ldc2Long hx hown (mvT hZ (hw _ (List.mem_of_getElem? (i := 12) rfl))) (g := (mkF m 86 #[.val (.long q1), .second, .val (.int p2), .val (.int lo), .val (.ref b1), .unset, .unset, .unset, .unset, .unset, .unset, .unset, .unset, .unset] [(.int (11 : Int32)), (.ref b7), (.ref b7)])) rfl (hb hby at_86)) ?_
  show own_Gl _ _ _ _ _ _ _ (T30.setTop (mkF m 89 #[.val (.long q1), .second, .val (.int p2), .val (.int lo), .val (.ref b1), .unset, .unset, .unset, .unset, .unset, .unset, .unset, .unset, .unset] [(.long (100000000000 : Int64)), (.int (11 : Int32)), (.ref b7), (.ref b7)]))
  obtain ⟨cl32, Ar32, qq32, Ss32, Nn32, Hh32, Gg32⟩ := id Vw30
  have hin32 : ¬ ((11 : Int32) < 0 ∨ cl32.slots.size ≤ ((11 : Int32)).toNatClampNeg) := inb_of Ss32 ⟨by decide, by decide⟩
  obtain ⟨T32, h32, X32, e32, W32, st32⟩ := stJ X30 hx hZ e30 Ar32 (j := (11 : Int32)) hin32 (g := (mkF m 89 #[.val (.long q1), .second, .val (.int p2), .val (.int lo), .val (.ref b1), .unset, .unset, .unset, .unset, .unset, .unset, .unset, .unset, .unset] [(.long (100000000000 : Int64)), (.int (11 : Int32)), (.ref b7), (.ref b7)])) rfl rfl (hb hby at_89)
  have N32 := Fr.snoc X32 N30 g_b7
  refine own_st st32 ?_
  have Zs33 : n0 ≤ h32.size := Nat.le_trans Zs31 (Keep.of_wr W32).1
  have Vw32 : Arv Z h32 b7 k7 .long (18 : Int32) [(.long (1 : Int64)), (.long (10 : Int64)), (.long (100 : Int64)), (.long (1000 : Int64)), (.long (10000 : Int64)), (.long (100000 : Int64)), (.long (1000000 : Int64)), (.long (10000000 : Int64)), (.long (100000000 : Int64)), (.long (1000000000 : Int64)), (.long (10000000000 : Int64)), (.long (100000000000 : Int64)), (.long (0 : Int64)), (.long (0 : Int64)), (.long (0 : Int64)), (.long (0 : Int64)), (.long (0 : Int64)), (.long (0 : Int64))] (.long (0 : Int64)) := Arv.set Ar32 qq32 Ss32 Nn32 Hh32 Gg32 rfl W32 11 (rfl) (Nat.le_of_ble_eq_true rfl)
  show own_Gl _ _ _ _ _ _ _ (T32.setTop (mkF m 90 #[.val (.long q1), .second, .val (.int p2), .val (.int lo), .val (.ref b1), .unset, .unset, .unset, .unset, .unset, .unset, .unset, .unset, .unset] [(.ref b7)]))
  refine own_st (fun _ k => XS.dup X32.here hx rfl (hb hby at_90) rfl rfl k) ?_
  show own_Gl _ _ _ _ _ _ _ (T32.setTop (mkF m 91 #[.val (.long q1), .second, .val (.int p2), .val (.int lo), .val (.ref b1), .unset, .unset, .unset, .unset, .unset, .unset, .unset, .unset, .unset] [(.ref b7), (.ref b7)]))
  refine own_st (fun _ k => XS.bipush X32.here hx rfl (hb hby at_91) k) ?_
  show own_Gl _ _ _ _ _ _ _ (T32.setTop (mkF m 93 #[.val (.long q1), .second, .val (.int p2), .val (.int lo), .val (.ref b1), .unset, .unset, .unset, .unset, .unset, .unset, .unset, .unset, .unset] [(.int (12 : Int32)), (.ref b7), (.ref b7)]))
  refine own_st (X32.ldc2Long hx hown (mvT hZ (hw _ (List.mem_of_getElem? (i := 13) rfl))) (g := (mkF m 93 #[.val (.long q1), .second, .val (.int p2), .val (.int lo), .val (.ref b1), .unset, .unset, .unset, .unset, .unset, .unset, .unset, .unset, .unset] [(.int (12 : Int32)), (.ref b7), (.ref b7)])) rfl (hb hby at_93)) ?_
  show own_Gl _ _ _ _ _ _ _ (T32.setTop (mkF m 96 #[.val (.long q1), .second, .val (.int p2), .val (.int lo), .val (.ref b1), .unset, .unset, .unset, .unset, .unset, .unset, .unset, .unset, .unset] [(.long (1000000000000 : Int64)), (.int (12 : Int32)), (.ref b7), (.ref b7)]))
  obtain ⟨cl34, Ar34, qq34, Ss34, Nn34, Hh34, Gg34⟩ := id Vw32
  have hin34 : ¬ ((12 : Int32) < 0 ∨ cl34.slots.size ≤ ((12 : Int32)).toNatClampNeg) := inb_of Ss34 ⟨by decide, by decide⟩
  obtain ⟨T34, h34, X34, e34, W34, st34⟩ := stJ X32 hx hZ e32 Ar34 (j := (12 : Int32)) hin34 (g := (mkF m 96 #[.val (.long q1), .second, .val (.int p2), .val (.int lo), .val (.ref b1), .unset, .unset, .unset, .unset, .unset, .unset, .unset, .unset, .unset] [(.long (1000000000000 : Int64)), (.int (12 : Int32)), (.ref b7), (.ref b7)])) rfl rfl (hb hby at_96)
  have N34 := Fr.snoc X34 N32 g_b7
  refine own_st st34 ?_
  have Zs35 : n0 ≤ h34.size := Nat.le_trans Zs33 (Keep.of_wr W34).1
  have Vw34 : Arv Z h34 b7 k7 .long (18 : Int32) [(.long (1 : Int64)), (.long (10 : Int64)), (.long (100 : Int64)), (.long (1000 : Int64)), (.long (10000 : Int64)), (.long (100000 : Int64)), (.long (1000000 : Int64)), (.long (10000000 : Int64)), (.long (100000000 : Int64)), (.long (1000000000 : Int64)), (.long (10000000000 : Int64)), (.long (100000000000 : Int64)), (.long (1000000000000 : Int64)), (.long (0 : Int64)), (.long (0 : Int64)), (.long (0 : Int64)), (.long (0 : Int64)), (.long (0 : Int64))] (.long (0 : Int64)) := Arv.set Ar34 qq34 Ss34 Nn34 Hh34 Gg34 rfl W34 12 (rfl) (Nat.le_of_ble_eq_true rfl)
  show own_Gl _ _ _ _ _ _ _ (T34.setTop (mkF m 97 #[.val (.long q1), .second, .val (.int p2), .val (.int lo), .val (.ref b1), .unset, .unset, .unset, .unset, .unset, .unset, .unset, .unset, .unset] [(.ref b7)]))
  refine own_st (fun _ k => XS.dup X34.here hx rfl (hb hby at_97) rfl rfl k) ?_
  show own_Gl _ _ _ _ _ _ _ (T34.setTop (mkF m 98 #[.val (.long q1), .second, .val (.int p2), .val (.int lo), .val (.ref b1), .unset, .unset, .unset, .unset, .unset, .unset, .unset, .unset, .unset] [(.ref b7), (.ref b7)]))
  refine own_st (fun _ k => XS.bipush X34.here hx rfl (hb hby at_98) k) ?_
  show own_Gl _ _ _ _ _ _ _ (T34.setTop (mkF m 100 #[.val (.long q1), .second, .val (.int p2), .val (.int lo), .val (.ref b1), .unset, .unset, .unset, .unset, .unset, .unset, .unset, .unset, .unset] [(.int (13 : Int32)), (.ref b7), (.ref b7)]))
  refine own_st (X34.ldc2Long hx hown (mvT hZ (hw _ (List.mem_of_getElem? (i := 14) rfl))) (g := (mkF m 100 #[.val (.long q1), .second, .val (.int p2), .val (.int lo), .val (.ref b1), .unset, .unset, .unset, .unset, .unset, .unset, .unset, .unset, .unset] [(.int (13 : Int32)), (.ref b7), (.ref b7)])) rfl (hb hby at_100)) ?_
  show own_Gl _ _ _ _ _ _ _ (T34.setTop (mkF m 103 #[.val (.long q1), .second, .val (.int p2), .val (.int lo), .val (.ref b1), .unset, .unset, .unset, .unset, .unset, .unset, .unset, .unset, .unset] [(.long (10000000000000 : Int64)), (.int (13 : Int32)), (.ref b7), (.ref b7)]))
  obtain ⟨cl36, Ar36, qq36, Ss36, Nn36, Hh36, Gg36⟩ := id Vw34
  have hin36 : ¬ ((13 : Int32) < 0 ∨ cl36.slots.size ≤ ((13 : Int32)).toNatClampNeg) := inb_of Ss36 ⟨by decide, by decide⟩
  obtain ⟨T36, h36, X36, e36, W36, st36⟩ := stJ X34 hx hZ e34 Ar36 (j := (13 : Int32)) hin36 (g := (mkF m 103 #[.val (.long q1), .second, .val (.int p2), .val (.int lo), .val (.ref b1), .unset, .unset, .unset, .unset, .unset, .unset, .unset, .unset, .unset] [(.long (10000000000000 : Int64)), (.int (13 : Int32)), (.ref b7), (.ref b7)])) rfl rfl (hb hby at_103)
  have N36 := Fr.snoc X36 N34 g_b7
  refine own_st st36 ?_
  have Zs37 : n0 ≤ h36.size := Nat.le_trans Zs35 (Keep.of_wr W36).1
  have Vw36 : Arv Z h36 b7 k7 .long (18 : Int32) [(.long (1 : Int64)), (.long (10 : Int64)), (.long (100 : Int64)), (.long (1000 : Int64)), (.long (10000 : Int64)), (.long (100000 : Int64)), (.long (1000000 : Int64)), (.long (10000000 : Int64)), (.long (100000000 : Int64)), (.long (1000000000 : Int64)), (.long (10000000000 : Int64)), (.long (100000000000 : Int64)), (.long (1000000000000 : Int64)), (.long (10000000000000 : Int64)), (.long (0 : Int64)), (.long (0 : Int64)), (.long (0 : Int64)), (.long (0 : Int64))] (.long (0 : Int64)) := Arv.set Ar36 qq36 Ss36 Nn36 Hh36 Gg36 rfl W36 13 (rfl) (Nat.le_of_ble_eq_true rfl)
  show own_Gl _ _ _ _ _ _ _ (T36.setTop (mkF m 104 #[.val (.long q1), .second, .val (.int p2), .val (.int lo), .val (.ref b1), .unset, .unset, .unset, .unset, .unset, .unset, .unset, .unset, .unset] [(.ref b7)]))
  refine own_st (fun _ k => XS.dup X36.here hx rfl (hb hby at_104) rfl rfl k) ?_
  show own_Gl _ _ _ _ _ _ _ (T36.setTop (mkF m 105 #[.val (.long q1), .second, .val (.int p2), .val (.int lo), .val (.ref b1), .unset, .unset, .unset, .unset, .unset, .unset, .unset, .unset, .unset] [(.ref b7), (.ref b7)]))
  refine own_st (fun _ k => XS.bipush X36.here hx rfl (hb hby at_105) k) ?_
  show own_Gl _ _ _ _ _ _ _ (T36.setTop (mkF m 107 #[.val (.long q1), .second, .val (.int p2), .val (.int lo), .val (.ref b1), .unset, .unset, .unset, .unset, .unset, .unset, .unset, .unset, .unset] [(.int (14 : Int32)), (.ref b7), (.ref b7)]))
  refine own_st (X36.ldc2Long hx hown (mvT hZ (hw _ (List.mem_of_getElem? (i := 15) rfl))) (g := (mkF m 107 #[.val (.long q1), .second, .val (.int p2), .val (.int lo), .val (.ref b1), .unset, .unset, .unset, .unset, .unset, .unset, .unset, .unset, .unset] [(.int (14 : Int32)), (.ref b7), (.ref b7)])) rfl (hb hby at_107)) ?_
  show own_Gl _ _ _ _ _ _ _ (T36.setTop (mkF m 110 #[.val (.long q1), .second, .val (.int p2), .val (.int lo), .val (.ref b1), .unset, .unset, .unset, .unset, .unset, .unset, .unset, .unset, .unset] [(.long (100000000000000 : Int64)), (.int (14 : Int32)), (.ref b7), (.ref b7)]))
  obtain ⟨cl38, Ar38, qq38, Ss38, Nn38, Hh38, Gg38⟩ := id Vw36
  have hin38 : ¬ ((14 : Int32) < 0 ∨ cl38.slots.size ≤ ((14 : Int32)).toNatClampNeg) := inb_of Ss38 ⟨by decide, by decide⟩
  obtain ⟨T38, h38, X38, e38, W38, st38⟩ := stJ X36 hx hZ e36 Ar38 (j := (14 : Int32)) hin38 (g := (mkF m 110 #[.val (.long q1), .second, .val (.int p2), .val (.int lo), .val (.ref b1), .unset, .unset, .unset, .unset, .unset, .unset, .unset, .unset, .unset] [(.long (100000000000000 : Int64)), (.int (14 : Int32)), (.ref b7), (.ref b7)])) rfl rfl (hb hby at_110)
  have N38 := Fr.snoc X38 N36 g_b7
  refine own_st st38 ?_
  have Zs39 : n0 ≤ h38.size := Nat.le_trans Zs37 (Keep.of_wr W38).1
  have Vw38 : Arv Z h38 b7 k7 .long (18 : Int32) [(.long (1 : Int64)), (.long (10 : Int64)), (.long (100 : Int64)), (.long (1000 : Int64)), (.long (10000 : Int64)), (.long (100000 : Int64)), (.long (1000000 : Int64)), (.long (10000000 : Int64)), (.long (100000000 : Int64)), (.long (1000000000 : Int64)), (.long (10000000000 : Int64)), (.long (100000000000 : Int64)), (.long (1000000000000 : Int64)), (.long (10000000000000 : Int64)), (.long (100000000000000 : Int64)), (.long (0 : Int64)), (.long (0 : Int64)), (.long (0 : Int64))] (.long (0 : Int64)) := Arv.set Ar38 qq38 Ss38 Nn38 Hh38 Gg38 rfl W38 14 (rfl) (Nat.le_of_ble_eq_true rfl)
  show own_Gl _ _ _ _ _ _ _ (T38.setTop (mkF m 111 #[.val (.long q1), .second, .val (.int p2), .val (.int lo), .val (.ref b1), .unset, .unset, .unset, .unset, .unset, .unset, .unset, .unset, .unset] [(.ref b7)]))
  refine own_st (fun _ k => XS.dup X38.here hx rfl (hb hby at_111) rfl rfl k) ?_
  show own_Gl _ _ _ _ _ _ _ (T38.setTop (mkF m 112 #[.val (.long q1), .second, .val (.int p2), .val (.int lo), .val (.ref b1), .unset, .unset, .unset, .unset, .unset, .unset, .unset, .unset, .unset] [(.ref b7), (.ref b7)]))
  refine own_st (fun _ k => XS.bipush X38.here hx rfl (hb hby at_112) k) ?_
  show own_Gl _ _ _ _ _ _ _ (T38.setTop (mkF m 114 #[.val (.long q1), .second, .val (.int p2), .val (.int lo), .val (.ref b1), .unset, .unset, .unset, .unset, .unset, .unset, .unset, .unset, .unset] [(.int (15 : Int32)), (.ref b7), (.ref b7)]))
  refine own_st (X38.ldc2Long hx hown (mvT hZ (hw _ (List.mem_of_getElem? (i := 16) rfl))) (g := (mkF m 114 #[.val (.long q1), .second, .val (.int p2), .val (.int lo), .val (.ref b1), .unset, .unset, .unset, .unset, .unset, .unset, .unset, .unset, .unset] [(.int (15 : Int32)), (.ref b7), (.ref b7)])) rfl (hb hby at_114)) ?_
  show own_Gl _ _ _ _ _ _ _ (T38.setTop (mkF m 117 #[.val (.long q1), .second, .val (.int p2), .val (.int lo), .val (.ref b1), .unset, .unset, .unset, .unset, .unset, .unset, .unset, .unset, .unset] [(.long (1000000000000000 : Int64)), (.int (15 : Int32)), (.ref b7), (.ref b7)]))
  obtain ⟨cl40, Ar40, qq40, Ss40, Nn40, Hh40, Gg40⟩ := id Vw38
  have hin40 : ¬ ((15 : Int32) < 0 ∨ cl40.slots.size ≤ ((15 : Int32)).toNatClampNeg) := inb_of Ss40 ⟨by decide, by decide⟩
  obtain ⟨T40, h40, X40, e40, W40, st40⟩ := stJ X38 hx hZ e38 Ar40 (j := (15 : Int32)) hin40 (g := (mkF m 117 #[.val (.long q1), .second, .val (.int p2), .val (.int lo), .val (.ref b1), .unset, .unset, .unset, .unset, .unset, .unset, .unset, .unset, .unset] [(.long (1000000000000000 : Int64)), (.int (15 : Int32)), (.ref b7), (.ref b7)])) rfl rfl (hb hby at_117)
  have N40 := Fr.snoc X40 N38 g_b7
  refine own_st st40 ?_
  have Zs41 : n0 ≤ h40.size := Nat.le_trans Zs39 (Keep.of_wr W40).1
  have Vw40 : Arv Z h40 b7 k7 .long (18 : Int32) [(.long (1 : Int64)), (.long (10 : Int64)), (.long (100 : Int64)), (.long (1000 : Int64)), (.long (10000 : Int64)), (.long (100000 : Int64)), (.long (1000000 : Int64)), (.long (10000000 : Int64)), (.long (100000000 : Int64)), (.long (1000000000 : Int64)), (.long (10000000000 : Int64)), (.long (100000000000 : Int64)), (.long (1000000000000 : Int64)), (.long (10000000000000 : Int64)), (.long (100000000000000 : Int64)), (.long (1000000000000000 : Int64)), (.long (0 : Int64)), (.long (0 : Int64))] (.long (0 : Int64)) := Arv.set Ar40 qq40 Ss40 Nn40 Hh40 Gg40 rfl W40 15 (rfl) (Nat.le_of_ble_eq_true rfl)
  show own_Gl _ _ _ _ _ _ _ (T40.setTop (mkF m 118 #[.val (.long q1), .second, .val (.int p2), .val (.int lo), .val (.ref b1), .unset, .unset, .unset, .unset, .unset, .unset, .unset, .unset, .unset] [(.ref b7)]))
  refine own_st (fun _ k => XS.dup X40.here hx rfl (hb hby at_118) rfl rfl k) ?_
  show own_Gl _ _ _ _ _ _ _ (T40.setTop (mkF m 119 #[.val (.long q1), .second, .val (.int p2), .val (.int lo), .val (.ref b1), .unset, .unset, .unset, .unset, .unset, .unset, .unset, .unset, .unset] [(.ref b7), (.ref b7)]))
  refine own_st (fun _ k => XS.bipush X40.here hx rfl (hb hby at_119) k) ?_
  show own_Gl _ _ _ _ _ _ _ (T40.setTop (mkF m 121 #[.val (.long q1), .second, .val (.int p2), .val (.int lo), .val (.ref b1), .unset, .unset, .unset, .unset, .unset, .unset, .unset, .unset, .unset] [(.int (16 : Int32)), (.ref b7), (.ref b7)]))
  refine own_st (X40.ldc2Long hx hown (mvT hZ (hw _ (List.mem_of_getElem? (i := 17) rfl))) (g := (mkF m 121 #[.val (.long q1), .second, .val (.int p2), .val (.int lo), .val (.ref b1), .unset, .unset, .unset, .unset, .unset, .unset, .unset, .unset, .unset] [(.int (16 : Int32)), (.ref b7), (.ref b7)])) rfl (hb hby at_121)) ?_
  show own_Gl _ _ _ _ _ _ _ (T40.setTop (mkF m 124 #[.val (.long q1), .second, .val (.int p2), .val (.int lo), .val (.ref b1), .unset, .unset, .unset, .unset, .unset, .unset, .unset, .unset, .unset] [(.long (10000000000000000 : Int64)), (.int (16 : Int32)), (.ref b7), (.ref b7)]))
  obtain ⟨cl42, Ar42, qq42, Ss42, Nn42, Hh42, Gg42⟩ := id Vw40
  have hin42 : ¬ ((16 : Int32) < 0 ∨ cl42.slots.size ≤ ((16 : Int32)).toNatClampNeg) := inb_of Ss42 ⟨by decide, by decide⟩
  obtain ⟨T42, h42, X42, e42, W42, st42⟩ := stJ X40 hx hZ e40 Ar42 (j := (16 : Int32)) hin42 (g := (mkF m 124 #[.val (.long q1), .second, .val (.int p2), .val (.int lo), .val (.ref b1), .unset, .unset, .unset, .unset, .unset, .unset, .unset, .unset, .unset] [(.long (10000000000000000 : Int64)), (.int (16 : Int32)), (.ref b7), (.ref b7)])) rfl rfl (hb hby at_124)
  have N42 := Fr.snoc X42 N40 g_b7
  refine own_st st42 ?_
  have Zs43 : n0 ≤ h42.size := Nat.le_trans Zs41 (Keep.of_wr W42).1
  have Vw42 : Arv Z h42 b7 k7 .long (18 : Int32) [(.long (1 : Int64)), (.long (10 : Int64)), (.long (100 : Int64)), (.long (1000 : Int64)), (.long (10000 : Int64)), (.long (100000 : Int64)), (.long (1000000 : Int64)), (.long (10000000 : Int64)), (.long (100000000 : Int64)), (.long (1000000000 : Int64)), (.long (10000000000 : Int64)), (.long (100000000000 : Int64)), (.long (1000000000000 : Int64)), (.long (10000000000000 : Int64)), (.long (100000000000000 : Int64)), (.long (1000000000000000 : Int64)), (.long (10000000000000000 : Int64)), (.long (0 : Int64))] (.long (0 : Int64)) := Arv.set Ar42 qq42 Ss42 Nn42 Hh42 Gg42 rfl W42 16 (rfl) (Nat.le_of_ble_eq_true rfl)
  show own_Gl _ _ _ _ _ _ _ (T42.setTop (mkF m 125 #[.val (.long q1), .second, .val (.int p2), .val (.int lo), .val (.ref b1), .unset, .unset, .unset, .unset, .unset, .unset, .unset, .unset, .unset] [(.ref b7)]))
  refine own_st (fun _ k => XS.dup X42.here hx rfl (hb hby at_125) rfl rfl k) ?_
  show own_Gl _ _ _ _ _ _ _ (T42.setTop (mkF m 126 #[.val (.long q1), .second, .val (.int p2), .val (.int lo), .val (.ref b1), .unset, .unset, .unset, .unset, .unset, .unset, .unset, .unset, .unset] [(.ref b7), (.ref b7)]))
  refine own_st (fun _ k => XS.bipush X42.here hx rfl (hb hby at_126) k) ?_
  show own_Gl _ _ _ _ _ _ _ (T42.setTop (mkF m 128 #[.val (.long q1), .second, .val (.int p2), .val (.int lo), .val (.ref b1), .unset, .unset, .unset, .unset, .unset, .unset, .unset, .unset, .unset] [(.int (17 : Int32)), (.ref b7), (.ref b7)]))
  refine own_st (X42.ldc2Long hx hown (mvT hZ (hw _ (List.mem_of_getElem? (i := 18) rfl))) (g := (mkF m 128 #[.val (.long q1), .second, .val (.int p2), .val (.int lo), .val (.ref b1), .unset, .unset, .unset, .unset, .unset, .unset, .unset, .unset, .unset] [(.int (17 : Int32)), (.ref b7), (.ref b7)])) rfl (hb hby at_128)) ?_
  show own_Gl _ _ _ _ _ _ _ (T42.setTop (mkF m 131 #[.val (.long q1), .second, .val (.int p2), .val (.int lo), .val (.ref b1), .unset, .unset, .unset, .unset, .unset, .unset, .unset, .unset, .unset] [(.long (100000000000000000 : Int64)), (.int (17 : Int32)), (.ref b7), (.ref b7)]))
  obtain ⟨cl44, Ar44, qq44, Ss44, Nn44, Hh44, Gg44⟩ := id Vw42
  have hin44 : ¬ ((17 : Int32) < 0 ∨ cl44.slots.size ≤ ((17 : Int32)).toNatClampNeg) := inb_of Ss44 ⟨by decide, by decide⟩
  obtain ⟨T44, h44, X44, e44, W44, st44⟩ := stJ X42 hx hZ e42 Ar44 (j := (17 : Int32)) hin44 (g := (mkF m 131 #[.val (.long q1), .second, .val (.int p2), .val (.int lo), .val (.ref b1), .unset, .unset, .unset, .unset, .unset, .unset, .unset, .unset, .unset] [(.long (100000000000000000 : Int64)), (.int (17 : Int32)), (.ref b7), (.ref b7)])) rfl rfl (hb hby at_131)
  have N44 := Fr.snoc X44 N42 g_b7
  refine own_st st44 ?_
  have Zs45 : n0 ≤ h44.size := Nat.le_trans Zs43 (Keep.of_wr W44).1
  have Vw44 : Arv Z h44 b7 k7 .long (18 : Int32) [(.long (1 : Int64)), (.long (10 : Int64)), (.long (100 : Int64)), (.long (1000 : Int64)), (.long (10000 : Int64)), (.long (100000 : Int64)), (.long (1000000 : Int64)), (.long (10000000 : Int64)), (.long (100000000 : Int64)), (.long (1000000000 : Int64)), (.long (10000000000 : Int64)), (.long (100000000000 : Int64)), (.long (1000000000000 : Int64)), (.long (10000000000000 : Int64)), (.long (100000000000000 : Int64)), (.long (1000000000000000 : Int64)), (.long (10000000000000000 : Int64)), (.long (100000000000000000 : Int64))] (.long (0 : Int64)) := Arv.set Ar44 qq44 Ss44 Nn44 Hh44 Gg44 rfl W44 17 (rfl) (Nat.le_of_ble_eq_true rfl)
  show own_Gl _ _ _ _ _ _ _ (T44.setTop (mkF m 132 #[.val (.long q1), .second, .val (.int p2), .val (.int lo), .val (.ref b1), .unset, .unset, .unset, .unset, .unset, .unset, .unset, .unset, .unset] [(.ref b7)]))
  refine own_st (fun _ k => XS.astore X44.here hx rfl (hb hby at_132) rfl rfl (l' := #[.val (.long q1), .second, .val (.int p2), .val (.int lo), .val (.ref b1), .val (.ref b7), .unset, .unset, .unset, .unset, .unset, .unset, .unset, .unset]) rfl k) ?_
  show own_Gl _ _ _ _ _ _ _ (T44.setTop (mkF m 134 #[.val (.long q1), .second, .val (.int p2), .val (.int lo), .val (.ref b1), .val (.ref b7), .unset, .unset, .unset, .unset, .unset, .unset, .unset, .unset] []))
  refine own_st (fun _ k => XS.lloadN X44.here hx rfl (hb hby at_134) rfl k) ?_
  show own_Gl _ _ _ _ _ _ _ (T44.setTop (mkF m 135 #[.val (.long q1), .second, .val (.int p2), .val (.int lo), .val (.ref b1), .val (.ref b7), .unset, .unset, .unset, .unset, .unset, .unset, .unset, .unset] [(.long q1)]))
  refine own_st (fun _ k => XS.aload X44.here hx rfl (hb hby at_135) rfl rfl k) ?_
  show own_Gl _ _ _ _ _ _ _ (T44.setTop (mkF m 137 #[.val (.long q1), .second, .val (.int p2), .val (.int lo), .val (.ref b1), .val (.ref b7), .unset, .unset, .unset, .unset, .unset, .unset, .unset, .unset] [(.ref b1), (.long q1)]))
  refine own_st (fun _ k => XS.iloadN X44.here hx rfl (hb hby at_137) rfl k) ?_
  show own_Gl _ _ _ _ _ _ _ (T44.setTop (mkF m 138 #[.val (.long q1), .second, .val (.int p2), .val (.int lo), .val (.ref b1), .val (.ref b7), .unset, .unset, .unset, .unset, .unset, .unset, .unset, .unset] [(.int lo), (.ref b1), (.long q1)]))
  have f47 := (((((((((((((((((((V_b1.ext E7).other W10 ne_b1_b7).other W12 ne_b1_b7).other W14 ne_b1_b7).other W16 ne_b1_b7).other W18 ne_b1_b7).other W20 ne_b1_b7).other W22 ne_b1_b7).other W24 ne_b1_b7).other W26 ne_b1_b7).other W28 ne_b1_b7).other W30 ne_b1_b7).other W32 ne_b1_b7).other W34 ne_b1_b7).other W36 ne_b1_b7).other W38 ne_b1_b7).other W40 ne_b1_b7).other W42 ne_b1_b7).other W44 ne_b1_b7)
  have f48 := (((((((((((((((((((f4.ext E7).other W10 ne_oa_b7).other W12 ne_oa_b7).other W14 ne_oa_b7).other W16 ne_oa_b7).other W18 ne_oa_b7).other W20 ne_oa_b7).other W22 ne_oa_b7).other W24 ne_oa_b7).other W26 ne_oa_b7).other W28 ne_oa_b7).other W30 ne_oa_b7).other W32 ne_oa_b7).other W34 ne_oa_b7).other W36 ne_oa_b7).other W38 ne_oa_b7).other W40 ne_oa_b7).other W42 ne_oa_b7).other W44 ne_oa_b7)
  have f49 := (((((((((((((((((((f5.ext E7).other W10 ne_ta_b7).other W12 ne_ta_b7).other W14 ne_ta_b7).other W16 ne_ta_b7).other W18 ne_ta_b7).other W20 ne_ta_b7).other W22 ne_ta_b7).other W24 ne_ta_b7).other W26 ne_ta_b7).other W28 ne_ta_b7).other W30 ne_ta_b7).other W32 ne_ta_b7).other W34 ne_ta_b7).other W36 ne_ta_b7).other W38 ne_ta_b7).other W40 ne_ta_b7).other W42 ne_ta_b7).other W44 ne_ta_b7)
  have f50 := ((((((((((((((((((((Old0.ext E1).ext E7).wr W10 g_b7).wr W12 g_b7).wr W14 g_b7).wr W16 g_b7).wr W18 g_b7).wr W20 g_b7).wr W22 g_b7).wr W24 g_b7).wr W26 g_b7).wr W28 g_b7).wr W30 g_b7).wr W32 g_b7).wr W34 g_b7).wr W36 g_b7).wr W38 g_b7).wr W40 g_b7).wr W42 g_b7).wr W44 g_b7)
  obtain ⟨_, _, ⟨T46, L46, k46, n46⟩, -, X46, ⟨Lc46, hQ46, l46, y46, z46⟩, st46⟩ := Jvm.LawKit.callS X44 hx (y := (⟨"org/benli/core/Money", "toChars", "(J[CI)I"⟩ : MethodName)) hown (mvT hZ (hw _ (List.mem_of_getElem? (i := 19) rfl))) (mvT hZ (hw _ (List.mem_of_getElem? (i := 20) rfl))) (mvT hZ (hw _ (List.mem_of_getElem? (i := 21) rfl))) (mvT hZ (hw _ (List.mem_of_getElem? (i := 22) rfl))) (by decide) (backOf (W := 0) (own_tc l Z a0 hw [] q1 b1 lo k1 oa ta ko kt Y C N la h44 n0 Zs45 f47 f48 f49 f50 S_ONES S_TENS g_b1 (Ne.symm ne_oa_b1) (Ne.symm ne_ta_b1) hA hC hN hla) hZ (hw _ (List.mem_of_getElem? (i := 22) rfl)) (hw _ (List.mem_of_getElem? (i := 21) rfl)) (by decide) (by decide)) (g := (mkF m 138 #[.val (.long q1), .second, .val (.int p2), .val (.int lo), .val (.ref b1), .val (.ref b7), .unset, .unset, .unset, .unset, .unset, .unset, .unset, .unset] [(.int lo), (.ref b1), (.long q1)])) rfl (by rw [hml]; rfl) (argsL := [(.long q1), (.ref b1), (.int lo)]) (rest := []) (lenOf own_pd359378519 rfl) rfl (by show 2 * 0 + _ ≤ _; exact Nat.le_of_eq rfl) (hb hby at_138) (fun _ _ => ⟨rfl, e44, (by decide : 2 + 0 ≤ room_1.cells), (by decide : 44 + 0 ≤ room_1.slots)⟩)
  dsimp only [Pt.U, Pt.locs, Pt.cells, Pt.slots] at X46 l46 y46 z46 st46 hQ46
  subst l46 y46 z46
  obtain ⟨hh46, eh046⟩ : ∃ z, T46.heap = z := ⟨_, rfl⟩
  rw [eh046] at hQ46
  obtain ⟨w_46, g_46, dn_46, rfl, Nq46, Kq46, P46_0, P46_1, P46_2, P46_3⟩ := hQ46
  have N46 := Fr.app N44 Nq46
  refine own_st st46 ?_
  have K51 : Keep h0 h44 [] := (((((((((((((((((((K6.ext E7).wr W10 (Or.inr gh_b7)).wr W12 (Or.inr gh_b7)).wr W14 (Or.inr gh_b7)).wr W16 (Or.inr gh_b7)).wr W18 (Or.inr gh_b7)).wr W20 (Or.inr gh_b7)).wr W22 (Or.inr gh_b7)).wr W24 (Or.inr gh_b7)).wr W26 (Or.inr gh_b7)).wr W28 (Or.inr gh_b7)).wr W30 (Or.inr gh_b7)).wr W32 (Or.inr gh_b7)).wr W34 (Or.inr gh_b7)).wr W36 (Or.inr gh_b7)).wr W38 (Or.inr gh_b7)).wr W40 (Or.inr gh_b7)).wr W42 (Or.inr gh_b7)).wr W44 (Or.inr gh_b7))
  have Zs52 : n0 ≤ hh46.size := Nat.le_trans Zs45 Kq46.1
  show own_Gl _ _ _ _ _ _ _ (T46.setTop (mkF m 141 #[.val (.long q1), .second, .val (.int p2), .val (.int lo), .val (.ref b1), .val (.ref b7), .unset, .unset, .unset, .unset, .unset, .unset, .unset, .unset] [(.int w_46)]))
  refine own_st (fun _ k => XS.istore X46.here hx rfl (hb hby at_141) rfl (l' := #[.val (.long q1), .second, .val (.int p2), .val (.int lo), .val (.ref b1), .val (.ref b7), .val (.int w_46), .unset, .unset, .unset, .unset, .unset, .unset, .unset]) rfl k) ?_
  show own_Gl _ _ _ _ _ _ _ (T46.setTop (mkF m 143 #[.val (.long q1), .second, .val (.int p2), .val (.int lo), .val (.ref b1), .val (.ref b7), .val (.int w_46), .unset, .unset, .unset, .unset, .unset, .unset, .unset] []))
  obtain ⟨hd1, hd2, hd3, hd4⟩ := P46_2
  have hwv := P46_1
  have hgv := P46_3
  have hlit3 : (3 : Int32).toInt = ((3 : Nat) : Int) := by decide
  have J173_53 : ∀ (T53 : State) (LL53 : List Loc) (N53 : Fr n0 LL53) (X53 : Stand p l e room_1 s m #[(.long q1), (.int p2)] below meth c T53 LL53 2 44) (e53 : T53.heap = hh46) (ng : Int32) (dd : Int32) (hdd : dd.toInt = (dn_46 : Int)), own_Gl p e below s (own_Q_own_law Z q1 p2 oa ta ko kt h0 n0) room_1.cells room_1.slots (T53.setTop (mkF m 173 #[.val (.long q1), .second, .val (.int p2), .val (.int lo), .val (.ref b1), .val (.ref b7), .val (.int w_46), .val (.int ng), .val (.int dd), .unset, .unset, .unset, .unset, .unset] [])) := by
    intro T53 LL53 N53 X53 e53 ng dd hdd
    show own_Gl _ _ _ _ _ _ _ (T53.setTop (mkF m 173 #[.val (.long q1), .second, .val (.int p2), .val (.int lo), .val (.ref b1), .val (.ref b7), .val (.int w_46), .val (.int ng), .val (.int dd), .unset, .unset, .unset, .unset, .unset] []))
    refine own_st (fun _ k => XS.iload X53.here hx rfl (hb hby at_173) rfl k) ?_
    show own_Gl _ _ _ _ _ _ _ (T53.setTop (mkF m 175 #[.val (.long q1), .second, .val (.int p2), .val (.int lo), .val (.ref b1), .val (.ref b7), .val (.int w_46), .val (.int ng), .val (.int dd), .unset, .unset, .unset, .unset, .unset] [(.int dd)]))
    refine own_st (fun _ k => XS.iconst X53.here hx rfl (hb hby at_175) k) ?_
    show own_Gl _ _ _ _ _ _ _ (T53.setTop (mkF m 176 #[.val (.long q1), .second, .val (.int p2), .val (.int lo), .val (.ref b1), .val (.ref b7), .val (.int w_46), .val (.int ng), .val (.int dd), .unset, .unset, .unset, .unset, .unset] [(.int (1 : Int32)), (.int dd)]))
    have hd54 : ¬ (dd < (1 : Int32)) := fun z => absurd ((own_ltI hdd (by decide : (1 : Int32).toInt = ((1 : Nat) : Int))).mp z) (by omega)
    refine own_st (fun _ k => XS.icmpNo X53.here hx rfl (hb hby at_176) rfl (flt hd54).1 k) ?_
    show own_Gl _ _ _ _ _ _ _ (T53.setTop (mkF m 179 #[.val (.long q1), .second, .val (.int p2), .val (.int lo), .val (.ref b1), .val (.ref b7), .val (.int w_46), .val (.int ng), .val (.int dd), .unset, .unset, .unset, .unset, .unset] []))
    refine own_st (fun _ k => XS.iload X53.here hx rfl (hb hby at_179) rfl k) ?_
    show own_Gl _ _ _ _ _ _ _ (T53.setTop (mkF m 181 #[.val (.long q1), .second, .val (.int p2), .val (.int lo), .val (.ref b1), .val (.ref b7), .val (.int w_46), .val (.int ng), .val (.int dd), .unset, .unset, .unset, .unset, .unset] [(.int dd)]))
    refine own_st (fun _ k => XS.bipush X53.here hx rfl (hb hby at_181) k) ?_
    show own_Gl _ _ _ _ _ _ _ (T53.setTop (mkF m 183 #[.val (.long q1), .second, .val (.int p2), .val (.int lo), .val (.ref b1), .val (.ref b7), .val (.int w_46), .val (.int ng), .val (.int dd), .unset, .unset, .unset, .unset, .unset] [(.int (17 : Int32)), (.int dd)]))
    have hd55 : ¬ ((17 : Int32) < dd) := fun z => absurd ((own_ltI (by decide : (17 : Int32).toInt = ((17 : Nat) : Int)) hdd).mp z) (by omega)
    refine own_st (fun _ k => XS.icmpYes X53.here hx rfl (pc0 := 183) (pc' := 188) rfl (hb hby at_183) rfl (flt hd55).2.2.2 (by decide) (by decide) k) ?_
    show own_Gl _ _ _ _ _ _ _ (T53.setTop (mkF m 188 #[.val (.long q1), .second, .val (.int p2), .val (.int lo), .val (.ref b1), .val (.ref b7), .val (.int w_46), .val (.int ng), .val (.int dd), .unset, .unset, .unset, .unset, .unset] []))
    refine own_st (fun _ k => XS.lloadN X53.here hx rfl (hb hby at_188) rfl k) ?_
    show own_Gl _ _ _ _ _ _ _ (T53.setTop (mkF m 189 #[.val (.long q1), .second, .val (.int p2), .val (.int lo), .val (.ref b1), .val (.ref b7), .val (.int w_46), .val (.int ng), .val (.int dd), .unset, .unset, .unset, .unset, .unset] [(.long q1)]))
    refine own_st (X53.ldc2Long hx hown (mvT hZ (hw _ (List.mem_of_getElem? (i := 3) rfl))) (g := (mkF m 189 #[.val (.long q1), .second, .val (.int p2), .val (.int lo), .val (.ref b1), .val (.ref b7), .val (.int w_46), .val (.int ng), .val (.int dd), .unset, .unset, .unset, .unset, .unset] [(.long q1)])) rfl (hb hby at_189)) ?_
    show own_Gl _ _ _ _ _ _ _ (T53.setTop (mkF m 192 #[.val (.long q1), .second, .val (.int p2), .val (.int lo), .val (.ref b1), .val (.ref b7), .val (.int w_46), .val (.int ng), .val (.int dd), .unset, .unset, .unset, .unset, .unset] [(.long (100 : Int64)), (.long q1)]))
    refine own_st (fun _ k => XS.ldiv X53.here hx rfl (hb hby at_192) rfl (by decide) k) ?_
    show own_Gl _ _ _ _ _ _ _ (T53.setTop (mkF m 193 #[.val (.long q1), .second, .val (.int p2), .val (.int lo), .val (.ref b1), .val (.ref b7), .val (.int w_46), .val (.int ng), .val (.int dd), .unset, .unset, .unset, .unset, .unset] [(.long (q1 / (100 : Int64)))]))
    have f57 := (f48.keep Kq46 (ninS ne_oa_b1 nin0))
    have f58 := (f49.keep Kq46 (ninS ne_ta_b1 nin0))
    have f59 := (Vw44.keep Kq46 (ninS (Ne.symm ne_b1_b7) nin0))
    obtain ⟨_, _, ⟨T56, L56, k56, n56⟩, -, X56, ⟨Lc56, hQ56, l56, y56, z56⟩, st56⟩ := Jvm.LawKit.callS X53 hx (y := (⟨"java/lang/Math", "abs", "(J)J"⟩ : MethodName)) hown (mvT hZ (hw _ (List.mem_of_getElem? (i := 33) rfl))) (mvT hZ (hw _ (List.mem_of_getElem? (i := 34) rfl))) (mvT hZ (hw _ (List.mem_of_getElem? (i := 35) rfl))) (mvT hZ (hw _ (List.mem_of_getElem? (i := 36) rfl))) (by decide) (backOf (W := 0) (own_abs l Z a0 hw [] (q1 / (100 : Int64)) hh46 n0 Zs52 ) hZ (hw _ (List.mem_of_getElem? (i := 36) rfl)) (hw _ (List.mem_of_getElem? (i := 35) rfl)) (by decide) (by decide)) (g := (mkF m 193 #[.val (.long q1), .second, .val (.int p2), .val (.int lo), .val (.ref b1), .val (.ref b7), .val (.int w_46), .val (.int ng), .val (.int dd), .unset, .unset, .unset, .unset, .unset] [(.long (q1 / (100 : Int64)))])) rfl (by rw [hml]; rfl) (argsL := [(.long (q1 / (100 : Int64)))]) (rest := []) (lenOf own_pd91198999 rfl) rfl (by show 2 * 0 + _ ≤ _; exact Nat.le_of_eq rfl) (hb hby at_193) (fun _ _ => ⟨rfl, e53, (by decide : 2 + 0 ≤ room_1.cells), (by decide : 44 + 0 ≤ room_1.slots)⟩)
    dsimp only [Pt.U, Pt.locs, Pt.cells, Pt.slots] at X56 l56 y56 z56 st56 hQ56
    subst l56 y56 z56
    obtain ⟨hh56, eh056⟩ : ∃ z, T56.heap = z := ⟨_, rfl⟩
    rw [eh056] at hQ56
    obtain ⟨rfl, Nq56, eh56⟩ := hQ56
    have N56 := Fr.app N53 Nq56
    refine own_st st56 ?_
    have e56 : T56.heap = hh46 := eh056.trans eh56
    show own_Gl _ _ _ _ _ _ _ (T56.setTop (mkF m 196 #[.val (.long q1), .second, .val (.int p2), .val (.int lo), .val (.ref b1), .val (.ref b7), .val (.int w_46), .val (.int ng), .val (.int dd), .unset, .unset, .unset, .unset, .unset] [(.long (if (q1 / (100 : Int64)) < (0 : Int64) then (-(q1 / (100 : Int64))) else (q1 / (100 : Int64))))]))
    refine own_st (fun _ k => XS.lstore X56.here hx rfl (hb hby at_196) rfl (l' := #[.val (.long q1), .second, .val (.int p2), .val (.int lo), .val (.ref b1), .val (.ref b7), .val (.int w_46), .val (.int ng), .val (.int dd), .val (.long (if (q1 / (100 : Int64)) < (0 : Int64) then (-(q1 / (100 : Int64))) else (q1 / (100 : Int64)))), .second, .unset, .unset, .unset]) rfl k) ?_
    show own_Gl _ _ _ _ _ _ _ (T56.setTop (mkF m 198 #[.val (.long q1), .second, .val (.int p2), .val (.int lo), .val (.ref b1), .val (.ref b7), .val (.int w_46), .val (.int ng), .val (.int dd), .val (.long (if (q1 / (100 : Int64)) < (0 : Int64) then (-(q1 / (100 : Int64))) else (q1 / (100 : Int64)))), .second, .unset, .unset, .unset] []))
    obtain ⟨yu, hyu⟩ : ∃ z, z = (if (q1 / (100 : Int64)) < (0 : Int64) then (-(q1 / (100 : Int64))) else (q1 / (100 : Int64))) := ⟨_, rfl⟩
    rw [← hyu]
    have hy : yu.toInt = (Y : Int) := by rw [hyu]; exact own_absJ (own_absY hA hC) (by have := own_Yb hA; omega)
    show own_Gl _ _ _ _ _ _ _ (T56.setTop (mkF m 198 #[.val (.long q1), .second, .val (.int p2), .val (.int lo), .val (.ref b1), .val (.ref b7), .val (.int w_46), .val (.int ng), .val (.int dd), .val (.long yu), .second, .unset, .unset, .unset] []))
    refine own_st (fun _ k => XS.lloadN X56.here hx rfl (hb hby at_198) rfl k) ?_
    show own_Gl _ _ _ _ _ _ _ (T56.setTop (mkF m 199 #[.val (.long q1), .second, .val (.int p2), .val (.int lo), .val (.ref b1), .val (.ref b7), .val (.int w_46), .val (.int ng), .val (.int dd), .val (.long yu), .second, .unset, .unset, .unset] [(.long q1)]))
    refine own_st (X56.ldc2Long hx hown (mvT hZ (hw _ (List.mem_of_getElem? (i := 3) rfl))) (g := (mkF m 199 #[.val (.long q1), .second, .val (.int p2), .val (.int lo), .val (.ref b1), .val (.ref b7), .val (.int w_46), .val (.int ng), .val (.int dd), .val (.long yu), .second, .unset, .unset, .unset] [(.long q1)])) rfl (hb hby at_199)) ?_
    show own_Gl _ _ _ _ _ _ _ (T56.setTop (mkF m 202 #[.val (.long q1), .second, .val (.int p2), .val (.int lo), .val (.ref b1), .val (.ref b7), .val (.int w_46), .val (.int ng), .val (.int dd), .val (.long yu), .second, .unset, .unset, .unset] [(.long (100 : Int64)), (.long q1)]))
    refine own_st (fun _ k => XS.lrem X56.here hx rfl (hb hby at_202) rfl (by decide) k) ?_
    show own_Gl _ _ _ _ _ _ _ (T56.setTop (mkF m 203 #[.val (.long q1), .second, .val (.int p2), .val (.int lo), .val (.ref b1), .val (.ref b7), .val (.int w_46), .val (.int ng), .val (.int dd), .val (.long yu), .second, .unset, .unset, .unset] [(.long (q1 - (q1 / (100 : Int64)) * (100 : Int64)))]))
    obtain ⟨_, _, ⟨T60, L60, k60, n60⟩, -, X60, ⟨Lc60, hQ60, l60, y60, z60⟩, st60⟩ := Jvm.LawKit.callS X56 hx (y := (⟨"java/lang/Math", "abs", "(J)J"⟩ : MethodName)) hown (mvT hZ (hw _ (List.mem_of_getElem? (i := 33) rfl))) (mvT hZ (hw _ (List.mem_of_getElem? (i := 34) rfl))) (mvT hZ (hw _ (List.mem_of_getElem? (i := 35) rfl))) (mvT hZ (hw _ (List.mem_of_getElem? (i := 36) rfl))) (by decide) (backOf (W := 0) (own_abs l Z a0 hw [] (q1 - (q1 / (100 : Int64)) * (100 : Int64)) hh46 n0 Zs52 ) hZ (hw _ (List.mem_of_getElem? (i := 36) rfl)) (hw _ (List.mem_of_getElem? (i := 35) rfl)) (by decide) (by decide)) (g := (mkF m 203 #[.val (.long q1), .second, .val (.int p2), .val (.int lo), .val (.ref b1), .val (.ref b7), .val (.int w_46), .val (.int ng), .val (.int dd), .val (.long yu), .second, .unset, .unset, .unset] [(.long (q1 - (q1 / (100 : Int64)) * (100 : Int64)))])) rfl (by rw [hml]; rfl) (argsL := [(.long (q1 - (q1 / (100 : Int64)) * (100 : Int64)))]) (rest := []) (lenOf own_pd91198999 rfl) rfl (by show 2 * 0 + _ ≤ _; exact Nat.le_of_eq rfl) (hb hby at_203) (fun _ _ => ⟨rfl, e56, (by decide : 2 + 0 ≤ room_1.cells), (by decide : 44 + 0 ≤ room_1.slots)⟩)
    dsimp only [Pt.U, Pt.locs, Pt.cells, Pt.slots] at X60 l60 y60 z60 st60 hQ60
    subst l60 y60 z60
    obtain ⟨hh60, eh060⟩ : ∃ z, T60.heap = z := ⟨_, rfl⟩
    rw [eh060] at hQ60
    obtain ⟨rfl, Nq60, eh60⟩ := hQ60
    have N60 := Fr.app N56 Nq60
    refine own_st st60 ?_
    have e60 : T60.heap = hh46 := eh060.trans eh60
    show own_Gl _ _ _ _ _ _ _ (T60.setTop (mkF m 206 #[.val (.long q1), .second, .val (.int p2), .val (.int lo), .val (.ref b1), .val (.ref b7), .val (.int w_46), .val (.int ng), .val (.int dd), .val (.long yu), .second, .unset, .unset, .unset] [(.long (if (q1 - (q1 / (100 : Int64)) * (100 : Int64)) < (0 : Int64) then (-(q1 - (q1 / (100 : Int64)) * (100 : Int64))) else (q1 - (q1 / (100 : Int64)) * (100 : Int64))))]))
    refine own_st (fun _ k => XS.l2i X60.here hx rfl (hb hby at_206) rfl k) ?_
    show own_Gl _ _ _ _ _ _ _ (T60.setTop (mkF m 207 #[.val (.long q1), .second, .val (.int p2), .val (.int lo), .val (.ref b1), .val (.ref b7), .val (.int w_46), .val (.int ng), .val (.int dd), .val (.long yu), .second, .unset, .unset, .unset] [(.int ((if (q1 - (q1 / (100 : Int64)) * (100 : Int64)) < (0 : Int64) then (-(q1 - (q1 / (100 : Int64)) * (100 : Int64))) else (q1 - (q1 / (100 : Int64)) * (100 : Int64))).toInt32))]))
    refine own_st (fun _ k => XS.istore X60.here hx rfl (hb hby at_207) rfl (l' := #[.val (.long q1), .second, .val (.int p2), .val (.int lo), .val (.ref b1), .val (.ref b7), .val (.int w_46), .val (.int ng), .val (.int dd), .val (.long yu), .second, .val (.int ((if (q1 - (q1 / (100 : Int64)) * (100 : Int64)) < (0 : Int64) then (-(q1 - (q1 / (100 : Int64)) * (100 : Int64))) else (q1 - (q1 / (100 : Int64)) * (100 : Int64))).toInt32)), .unset, .unset]) rfl k) ?_
    show own_Gl _ _ _ _ _ _ _ (T60.setTop (mkF m 209 #[.val (.long q1), .second, .val (.int p2), .val (.int lo), .val (.ref b1), .val (.ref b7), .val (.int w_46), .val (.int ng), .val (.int dd), .val (.long yu), .second, .val (.int ((if (q1 - (q1 / (100 : Int64)) * (100 : Int64)) < (0 : Int64) then (-(q1 - (q1 / (100 : Int64)) * (100 : Int64))) else (q1 - (q1 / (100 : Int64)) * (100 : Int64))).toInt32)), .unset, .unset] []))
    obtain ⟨ce, hce⟩ : ∃ z, z = ((if (q1 - (q1 / (100 : Int64)) * (100 : Int64)) < (0 : Int64) then (-(q1 - (q1 / (100 : Int64)) * (100 : Int64))) else (q1 - (q1 / (100 : Int64)) * (100 : Int64))).toInt32) := ⟨_, rfl⟩
    rw [← hce]
    have hcc : ce.toInt = (C : Int) ∧ C < 100 := ⟨by rw [hce]; exact own_cl2i (own_absJ (own_absC hA hC) (by omega)) hC, hC⟩
    show own_Gl _ _ _ _ _ _ _ (T60.setTop (mkF m 209 #[.val (.long q1), .second, .val (.int p2), .val (.int lo), .val (.ref b1), .val (.ref b7), .val (.int w_46), .val (.int ng), .val (.int dd), .val (.long yu), .second, .val (.int ce), .unset, .unset] []))
    refine own_st (fun _ k => XS.lload X60.here hx rfl (hb hby at_209) rfl k) ?_
    show own_Gl _ _ _ _ _ _ _ (T60.setTop (mkF m 211 #[.val (.long q1), .second, .val (.int p2), .val (.int lo), .val (.ref b1), .val (.ref b7), .val (.int w_46), .val (.int ng), .val (.int dd), .val (.long yu), .second, .val (.int ce), .unset, .unset] [(.long yu)]))
    refine own_st (fun _ k => XS.aload X60.here hx rfl (hb hby at_211) rfl rfl k) ?_
    show own_Gl _ _ _ _ _ _ _ (T60.setTop (mkF m 213 #[.val (.long q1), .second, .val (.int p2), .val (.int lo), .val (.ref b1), .val (.ref b7), .val (.int w_46), .val (.int ng), .val (.int dd), .val (.long yu), .second, .val (.int ce), .unset, .unset] [(.ref b7), (.long yu)]))
    refine own_st (fun _ k => XS.iload X60.here hx rfl (hb hby at_213) rfl k) ?_
    show own_Gl _ _ _ _ _ _ _ (T60.setTop (mkF m 215 #[.val (.long q1), .second, .val (.int p2), .val (.int lo), .val (.ref b1), .val (.ref b7), .val (.int w_46), .val (.int ng), .val (.int dd), .val (.long yu), .second, .val (.int ce), .unset, .unset] [(.int dd), (.ref b7), (.long yu)]))
    obtain ⟨cl61, Ar61, qq61, Ss61, Nn61, Hh61, Gg61⟩ := id f59
    have hin61 : ¬ (dd < 0 ∨ cl61.slots.size ≤ (dd).toNatClampNeg) := inb_of Ss61 (own_inI hdd (by decide : (18 : Int32).toInt = ((18 : Nat) : Int)) (by omega))
    have hat61 : cl61.slots[(dd).toNatClampNeg]? = some (.long (Int64.ofNat (10 ^ dn_46))) := Hh61.at hin61 ((by rw [own_natI hdd]; exact own_pl _ (by omega)))
    refine own_st (X60.laload hx (j := dd) (v := (.long (Int64.ofNat (10 ^ dn_46)))) (by rw [e60]; exact Ar61.1) (State.isArrayOf_alike hZ.alike Ar61.2.1) Ar61.2.2 hin61 hat61 (g := (mkF m 215 #[.val (.long q1), .second, .val (.int p2), .val (.int lo), .val (.ref b1), .val (.ref b7), .val (.int w_46), .val (.int ng), .val (.int dd), .val (.long yu), .second, .val (.int ce), .unset, .unset] [(.int dd), (.ref b7), (.long yu)])) rfl rfl (hb hby at_215)) ?_
    show own_Gl _ _ _ _ _ _ _ (T60.setTop (mkF m 216 #[.val (.long q1), .second, .val (.int p2), .val (.int lo), .val (.ref b1), .val (.ref b7), .val (.int w_46), .val (.int ng), .val (.int dd), .val (.long yu), .second, .val (.int ce), .unset, .unset] [(.long (Int64.ofNat (10 ^ dn_46))), (.long yu)]))
    refine own_st (fun _ k => XS.lcmp X60.here hx rfl (hb hby at_216) rfl k) ?_
    show own_Gl _ _ _ _ _ _ _ (T60.setTop (mkF m 217 #[.val (.long q1), .second, .val (.int p2), .val (.int lo), .val (.ref b1), .val (.ref b7), .val (.int w_46), .val (.int ng), .val (.int dd), .val (.long yu), .second, .val (.int ce), .unset, .unset] [(.int (lcmpW yu (Int64.ofNat (10 ^ dn_46))))]))
    have hd62 : yu < (Int64.ofNat (10 ^ dn_46)) := (own_ltJ hy (own_10 _ (by omega))).mpr hd3
    refine own_st (fun _ k => XS.ifYes X60.here hx rfl (pc0 := 217) (pc' := 222) rfl (hb hby at_217) rfl ((if0 _ _).trans (tlt ((lw_lt _ _).mpr hd62)).1) (by decide) (by decide) k) ?_
    show own_Gl _ _ _ _ _ _ _ (T60.setTop (mkF m 222 #[.val (.long q1), .second, .val (.int p2), .val (.int lo), .val (.ref b1), .val (.ref b7), .val (.int w_46), .val (.int ng), .val (.int dd), .val (.long yu), .second, .val (.int ce), .unset, .unset] []))
    have J243_63 : ∀ (T63 : State) (LL63 : List Loc) (N63 : Fr n0 LL63) (X63 : Stand p l e room_1 s m #[(.long q1), (.int p2)] below meth c T63 LL63 2 44) (e63 : T63.heap = hh46), own_Gl p e below s (own_Q_own_law Z q1 p2 oa ta ko kt h0 n0) room_1.cells room_1.slots (T63.setTop (mkF m 243 #[.val (.long q1), .second, .val (.int p2), .val (.int lo), .val (.ref b1), .val (.ref b7), .val (.int w_46), .val (.int ng), .val (.int dd), .val (.long yu), .second, .val (.int ce), .unset, .unset] [])) := by
      intro T63 LL63 N63 X63 e63
      show own_Gl _ _ _ _ _ _ _ (T63.setTop (mkF m 243 #[.val (.long q1), .second, .val (.int p2), .val (.int lo), .val (.ref b1), .val (.ref b7), .val (.int w_46), .val (.int ng), .val (.int dd), .val (.long yu), .second, .val (.int ce), .unset, .unset] []))
      refine own_st (fun _ k => XS.iloadN X63.here hx rfl (hb hby at_243) rfl k) ?_
      show own_Gl _ _ _ _ _ _ _ (T63.setTop (mkF m 244 #[.val (.long q1), .second, .val (.int p2), .val (.int lo), .val (.ref b1), .val (.ref b7), .val (.int w_46), .val (.int ng), .val (.int dd), .val (.long yu), .second, .val (.int ce), .unset, .unset] [(.int lo)]))
      refine own_st (fun _ k => XS.iload X63.here hx rfl (hb hby at_244) rfl k) ?_
      show own_Gl _ _ _ _ _ _ _ (T63.setTop (mkF m 246 #[.val (.long q1), .second, .val (.int p2), .val (.int lo), .val (.ref b1), .val (.ref b7), .val (.int w_46), .val (.int ng), .val (.int dd), .val (.long yu), .second, .val (.int ce), .unset, .unset] [(.int w_46), (.int lo)]))
      refine own_st (fun _ k => XS.iadd X63.here hx rfl (hb hby at_246) rfl k) ?_
      show own_Gl _ _ _ _ _ _ _ (T63.setTop (mkF m 247 #[.val (.long q1), .second, .val (.int p2), .val (.int lo), .val (.ref b1), .val (.ref b7), .val (.int w_46), .val (.int ng), .val (.int dd), .val (.long yu), .second, .val (.int ce), .unset, .unset] [(.int (lo + w_46))]))
      refine own_st (fun _ k => XS.istore X63.here hx rfl (hb hby at_247) rfl (l' := #[.val (.long q1), .second, .val (.int p2), .val (.int lo), .val (.ref b1), .val (.ref b7), .val (.int w_46), .val (.int ng), .val (.int dd), .val (.long yu), .second, .val (.int ce), .val (.int (lo + w_46)), .unset]) rfl k) ?_
      show own_Gl _ _ _ _ _ _ _ (T63.setTop (mkF m 249 #[.val (.long q1), .second, .val (.int p2), .val (.int lo), .val (.ref b1), .val (.ref b7), .val (.int w_46), .val (.int ng), .val (.int dd), .val (.long yu), .second, .val (.int ce), .val (.int (lo + w_46)), .unset] []))
      obtain ⟨en, hen0⟩ : ∃ z, z = (lo + w_46) := ⟨_, rfl⟩
      rw [← hen0]
      have hen : en.toInt = ((la + N + dn_46 + 3 : Nat) : Int) := by rw [hen0, own_addI hla.1 hwv (by omega)]; omega
      show own_Gl _ _ _ _ _ _ _ (T63.setTop (mkF m 249 #[.val (.long q1), .second, .val (.int p2), .val (.int lo), .val (.ref b1), .val (.ref b7), .val (.int w_46), .val (.int ng), .val (.int dd), .val (.long yu), .second, .val (.int ce), .val (.int en), .unset] []))
      refine own_st (fun _ k => XS.iconst X63.here hx rfl (hb hby at_249) k) ?_
      show own_Gl _ _ _ _ _ _ _ (T63.setTop (mkF m 250 #[.val (.long q1), .second, .val (.int p2), .val (.int lo), .val (.ref b1), .val (.ref b7), .val (.int w_46), .val (.int ng), .val (.int dd), .val (.long yu), .second, .val (.int ce), .val (.int en), .unset] [(.int (1 : Int32))]))
      refine own_st (fun _ k => XS.istore X63.here hx rfl (hb hby at_250) rfl (l' := #[.val (.long q1), .second, .val (.int p2), .val (.int lo), .val (.ref b1), .val (.ref b7), .val (.int w_46), .val (.int ng), .val (.int dd), .val (.long yu), .second, .val (.int ce), .val (.int en), .val (.int (1 : Int32))]) rfl k) ?_
      show own_Gl _ _ _ _ _ _ _ (T63.setTop (mkF m 252 #[.val (.long q1), .second, .val (.int p2), .val (.int lo), .val (.ref b1), .val (.ref b7), .val (.int w_46), .val (.int ng), .val (.int dd), .val (.long yu), .second, .val (.int ce), .val (.int en), .val (.int (1 : Int32))] []))
      have J775_64 : ∀ (T64 : State) (LL64 : List Loc) (N64 : Fr n0 LL64) (X64 : Stand p l e room_1 s m #[(.long q1), (.int p2)] below meth c T64 LL64 2 44) (e64 : T64.heap = hh46), own_Gl p e below s (own_Q_own_law Z q1 p2 oa ta ko kt h0 n0) room_1.cells room_1.slots (T64.setTop (mkF m 775 #[.val (.long q1), .second, .val (.int p2), .val (.int lo), .val (.ref b1), .val (.ref b7), .val (.int w_46), .val (.int ng), .val (.int dd), .val (.long yu), .second, .val (.int ce), .val (.int en), .val (.int (1 : Int32))] [])) := by
        intro T64 LL64 N64 X64 e64
        show own_Gl _ _ _ _ _ _ _ (T64.setTop (mkF m 775 #[.val (.long q1), .second, .val (.int p2), .val (.int lo), .val (.ref b1), .val (.ref b7), .val (.int w_46), .val (.int ng), .val (.int dd), .val (.long yu), .second, .val (.int ce), .val (.int en), .val (.int (1 : Int32))] []))
        refine own_st (fun _ k => XS.iload X64.here hx rfl (hb hby at_775) rfl k) ?_
        show own_Gl _ _ _ _ _ _ _ (T64.setTop (mkF m 777 #[.val (.long q1), .second, .val (.int p2), .val (.int lo), .val (.ref b1), .val (.ref b7), .val (.int w_46), .val (.int ng), .val (.int dd), .val (.long yu), .second, .val (.int ce), .val (.int en), .val (.int (1 : Int32))] [(.int (1 : Int32))]))
        refine own_st (fun _ k => XS.aload X64.here hx rfl (hb hby at_777) rfl rfl k) ?_
        show own_Gl _ _ _ _ _ _ _ (T64.setTop (mkF m 779 #[.val (.long q1), .second, .val (.int p2), .val (.int lo), .val (.ref b1), .val (.ref b7), .val (.int w_46), .val (.int ng), .val (.int dd), .val (.long yu), .second, .val (.int ce), .val (.int en), .val (.int (1 : Int32))] [(.ref b1), (.int (1 : Int32))]))
        refine own_st (fun _ k => XS.bipush X64.here hx rfl (hb hby at_779) k) ?_
        show own_Gl _ _ _ _ _ _ _ (T64.setTop (mkF m 781 #[.val (.long q1), .second, .val (.int p2), .val (.int lo), .val (.ref b1), .val (.ref b7), .val (.int w_46), .val (.int ng), .val (.int dd), .val (.long yu), .second, .val (.int ce), .val (.int en), .val (.int (1 : Int32))] [(.int (23 : Int32)), (.ref b1), (.int (1 : Int32))]))
        refine own_st (fun _ k => XS.iloadN X64.here hx rfl (hb hby at_781) rfl k) ?_
        show own_Gl _ _ _ _ _ _ _ (T64.setTop (mkF m 782 #[.val (.long q1), .second, .val (.int p2), .val (.int lo), .val (.ref b1), .val (.ref b7), .val (.int w_46), .val (.int ng), .val (.int dd), .val (.long yu), .second, .val (.int ce), .val (.int en), .val (.int (1 : Int32))] [(.int lo), (.int (23 : Int32)), (.ref b1), (.int (1 : Int32))]))
        refine own_st (fun _ k => XS.iload X64.here hx rfl (hb hby at_782) rfl k) ?_
        show own_Gl _ _ _ _ _ _ _ (T64.setTop (mkF m 784 #[.val (.long q1), .second, .val (.int p2), .val (.int lo), .val (.ref b1), .val (.ref b7), .val (.int w_46), .val (.int ng), .val (.int dd), .val (.long yu), .second, .val (.int ce), .val (.int en), .val (.int (1 : Int32))] [(.int en), (.int lo), (.int (23 : Int32)), (.ref b1), (.int (1 : Int32))]))
        refine own_st (fun _ k => XS.iload X64.here hx rfl (hb hby at_784) rfl k) ?_
        show own_Gl _ _ _ _ _ _ _ (T64.setTop (mkF m 786 #[.val (.long q1), .second, .val (.int p2), .val (.int lo), .val (.ref b1), .val (.ref b7), .val (.int w_46), .val (.int ng), .val (.int dd), .val (.long yu), .second, .val (.int ce), .val (.int en), .val (.int (1 : Int32))] [(.int ce), (.int en), (.int lo), (.int (23 : Int32)), (.ref b1), (.int (1 : Int32))]))
        refine own_st (fun _ k => XS.lload X64.here hx rfl (hb hby at_786) rfl k) ?_
        show own_Gl _ _ _ _ _ _ _ (T64.setTop (mkF m 788 #[.val (.long q1), .second, .val (.int p2), .val (.int lo), .val (.ref b1), .val (.ref b7), .val (.int w_46), .val (.int ng), .val (.int dd), .val (.long yu), .second, .val (.int ce), .val (.int en), .val (.int (1 : Int32))] [(.long yu), (.int ce), (.int en), (.int lo), (.int (23 : Int32)), (.ref b1), (.int (1 : Int32))]))
        refine own_st (fun _ k => XS.iload X64.here hx rfl (hb hby at_788) rfl k) ?_
        show own_Gl _ _ _ _ _ _ _ (T64.setTop (mkF m 790 #[.val (.long q1), .second, .val (.int p2), .val (.int lo), .val (.ref b1), .val (.ref b7), .val (.int w_46), .val (.int ng), .val (.int dd), .val (.long yu), .second, .val (.int ce), .val (.int en), .val (.int (1 : Int32))] [(.int dd), (.long yu), (.int ce), (.int en), (.int lo), (.int (23 : Int32)), (.ref b1), (.int (1 : Int32))]))
        refine own_st (fun _ k => XS.aload X64.here hx rfl (hb hby at_790) rfl rfl k) ?_
        show own_Gl _ _ _ _ _ _ _ (T64.setTop (mkF m 792 #[.val (.long q1), .second, .val (.int p2), .val (.int lo), .val (.ref b1), .val (.ref b7), .val (.int w_46), .val (.int ng), .val (.int dd), .val (.long yu), .second, .val (.int ce), .val (.int en), .val (.int (1 : Int32))] [(.ref b7), (.int dd), (.long yu), (.int ce), (.int en), (.int lo), (.int (23 : Int32)), (.ref b1), (.int (1 : Int32))]))
        obtain ⟨_, _, ⟨T65, L65, k65, n65⟩, -, X65, ⟨Lc65, hQ65, l65, y65, z65⟩, st65⟩ := Jvm.LawKit.callS X64 hx (y := (⟨"org/benli/core/MoneyToCharsPinLaw", "cell", "([CIIIIJI[J)Z"⟩ : MethodName)) hown (mvT hZ (hw _ (List.mem_of_getElem? (i := 37) rfl))) (mvT hZ (hw _ (List.mem_of_getElem? (i := 38) rfl))) (mvT hZ (hw _ (List.mem_of_getElem? (i := 39) rfl))) (mvT hZ (hw _ (List.mem_of_getElem? (i := 40) rfl))) (by decide) (backOf (W := 1) (own_rcell l Z a0 hw [] b1 (23 : Int32) lo en ce yu dd b7 k1 k7 g_46 Y C dn_46 N la 23 hh46 n0 Zs52 P46_0 f59 ⟨by decide, by decide⟩ hla.1 hen hNb hcc hy ⟨hdd, hd2⟩ hgv) hZ (hw _ (List.mem_of_getElem? (i := 40) rfl)) (hw _ (List.mem_of_getElem? (i := 39) rfl)) (by decide) (by decide)) (g := (mkF m 792 #[.val (.long q1), .second, .val (.int p2), .val (.int lo), .val (.ref b1), .val (.ref b7), .val (.int w_46), .val (.int ng), .val (.int dd), .val (.long yu), .second, .val (.int ce), .val (.int en), .val (.int (1 : Int32))] [(.ref b7), (.int dd), (.long yu), (.int ce), (.int en), (.int lo), (.int (23 : Int32)), (.ref b1), (.int (1 : Int32))])) rfl (by rw [hml]; rfl) (argsL := [(.ref b1), (.int (23 : Int32)), (.int lo), (.int en), (.int ce), (.long yu), (.int dd), (.ref b7)]) (rest := [(.int (1 : Int32))]) (lenOf own_pd785152518 rfl) rfl (by show 2 * 0 + _ ≤ _; exact Nat.le_of_eq rfl) (hb hby at_792) (fun _ _ => ⟨rfl, e64, (by decide : 2 + 0 ≤ room_1.cells), (by decide : 44 + 0 ≤ room_1.slots)⟩)
        dsimp only [Pt.U, Pt.locs, Pt.cells, Pt.slots] at X65 l65 y65 z65 st65 hQ65
        subst l65 y65 z65
        obtain ⟨hh65, eh065⟩ : ∃ z, T65.heap = z := ⟨_, rfl⟩
        rw [eh065] at hQ65
        obtain ⟨rfl, Nq65, eh65⟩ := hQ65
        have N65 := Fr.app N64 Nq65
        refine own_st st65 ?_
        have e65 : T65.heap = hh46 := eh065.trans eh65
        show own_Gl _ _ _ _ _ _ _ (T65.setTop (mkF m 795 #[.val (.long q1), .second, .val (.int p2), .val (.int lo), .val (.ref b1), .val (.ref b7), .val (.int w_46), .val (.int ng), .val (.int dd), .val (.long yu), .second, .val (.int ce), .val (.int en), .val (.int (1 : Int32))] [(.int (1 : Int32)), (.int (1 : Int32))]))
        refine own_st (fun _ k => XS.iand X65.here hx rfl (hb hby at_795) rfl k) ?_
        show own_Gl _ _ _ _ _ _ _ (T65.setTop (mkF m 796 #[.val (.long q1), .second, .val (.int p2), .val (.int lo), .val (.ref b1), .val (.ref b7), .val (.int w_46), .val (.int ng), .val (.int dd), .val (.long yu), .second, .val (.int ce), .val (.int en), .val (.int (1 : Int32))] [(.int (1 : Int32))]))
        refine own_st (fun _ k => XS.istore X65.here hx rfl (hb hby at_796) rfl (l' := #[.val (.long q1), .second, .val (.int p2), .val (.int lo), .val (.ref b1), .val (.ref b7), .val (.int w_46), .val (.int ng), .val (.int dd), .val (.long yu), .second, .val (.int ce), .val (.int en), .val (.int (1 : Int32))]) rfl k) ?_
        show own_Gl _ _ _ _ _ _ _ (T65.setTop (mkF m 798 #[.val (.long q1), .second, .val (.int p2), .val (.int lo), .val (.ref b1), .val (.ref b7), .val (.int w_46), .val (.int ng), .val (.int dd), .val (.long yu), .second, .val (.int ce), .val (.int en), .val (.int (1 : Int32))] []))
        refine own_st (fun _ k => XS.iload X65.here hx rfl (hb hby at_798) rfl k) ?_
        show own_Gl _ _ _ _ _ _ _ (T65.setTop (mkF m 800 #[.val (.long q1), .second, .val (.int p2), .val (.int lo), .val (.ref b1), .val (.ref b7), .val (.int w_46), .val (.int ng), .val (.int dd), .val (.long yu), .second, .val (.int ce), .val (.int en), .val (.int (1 : Int32))] [(.int (1 : Int32))]))
        refine own_st (fun _ k => XS.aload X65.here hx rfl (hb hby at_800) rfl rfl k) ?_
        show own_Gl _ _ _ _ _ _ _ (T65.setTop (mkF m 802 #[.val (.long q1), .second, .val (.int p2), .val (.int lo), .val (.ref b1), .val (.ref b7), .val (.int w_46), .val (.int ng), .val (.int dd), .val (.long yu), .second, .val (.int ce), .val (.int en), .val (.int (1 : Int32))] [(.ref b1), (.int (1 : Int32))]))
        refine own_st (fun _ k => XS.bipush X65.here hx rfl (hb hby at_802) k) ?_
        show own_Gl _ _ _ _ _ _ _ (T65.setTop (mkF m 804 #[.val (.long q1), .second, .val (.int p2), .val (.int lo), .val (.ref b1), .val (.ref b7), .val (.int w_46), .val (.int ng), .val (.int dd), .val (.long yu), .second, .val (.int ce), .val (.int en), .val (.int (1 : Int32))] [(.int (24 : Int32)), (.ref b1), (.int (1 : Int32))]))
        refine own_st (fun _ k => XS.iloadN X65.here hx rfl (hb hby at_804) rfl k) ?_
        show own_Gl _ _ _ _ _ _ _ (T65.setTop (mkF m 805 #[.val (.long q1), .second, .val (.int p2), .val (.int lo), .val (.ref b1), .val (.ref b7), .val (.int w_46), .val (.int ng), .val (.int dd), .val (.long yu), .second, .val (.int ce), .val (.int en), .val (.int (1 : Int32))] [(.int lo), (.int (24 : Int32)), (.ref b1), (.int (1 : Int32))]))
        refine own_st (fun _ k => XS.iload X65.here hx rfl (hb hby at_805) rfl k) ?_
        show own_Gl _ _ _ _ _ _ _ (T65.setTop (mkF m 807 #[.val (.long q1), .second, .val (.int p2), .val (.int lo), .val (.ref b1), .val (.ref b7), .val (.int w_46), .val (.int ng), .val (.int dd), .val (.long yu), .second, .val (.int ce), .val (.int en), .val (.int (1 : Int32))] [(.int en), (.int lo), (.int (24 : Int32)), (.ref b1), (.int (1 : Int32))]))
        refine own_st (fun _ k => XS.iload X65.here hx rfl (hb hby at_807) rfl k) ?_
        show own_Gl _ _ _ _ _ _ _ (T65.setTop (mkF m 809 #[.val (.long q1), .second, .val (.int p2), .val (.int lo), .val (.ref b1), .val (.ref b7), .val (.int w_46), .val (.int ng), .val (.int dd), .val (.long yu), .second, .val (.int ce), .val (.int en), .val (.int (1 : Int32))] [(.int ce), (.int en), (.int lo), (.int (24 : Int32)), (.ref b1), (.int (1 : Int32))]))
        refine own_st (fun _ k => XS.lload X65.here hx rfl (hb hby at_809) rfl k) ?_
        show own_Gl _ _ _ _ _ _ _ (T65.setTop (mkF m 811 #[.val (.long q1), .second, .val (.int p2), .val (.int lo), .val (.ref b1), .val (.ref b7), .val (.int w_46), .val (.int ng), .val (.int dd), .val (.long yu), .second, .val (.int ce), .val (.int en), .val (.int (1 : Int32))] [(.long yu), (.int ce), (.int en), (.int lo), (.int (24 : Int32)), (.ref b1), (.int (1 : Int32))]))
        refine own_st (fun _ k => XS.iload X65.here hx rfl (hb hby at_811) rfl k) ?_
        show own_Gl _ _ _ _ _ _ _ (T65.setTop (mkF m 813 #[.val (.long q1), .second, .val (.int p2), .val (.int lo), .val (.ref b1), .val (.ref b7), .val (.int w_46), .val (.int ng), .val (.int dd), .val (.long yu), .second, .val (.int ce), .val (.int en), .val (.int (1 : Int32))] [(.int dd), (.long yu), (.int ce), (.int en), (.int lo), (.int (24 : Int32)), (.ref b1), (.int (1 : Int32))]))
        refine own_st (fun _ k => XS.aload X65.here hx rfl (hb hby at_813) rfl rfl k) ?_
        show own_Gl _ _ _ _ _ _ _ (T65.setTop (mkF m 815 #[.val (.long q1), .second, .val (.int p2), .val (.int lo), .val (.ref b1), .val (.ref b7), .val (.int w_46), .val (.int ng), .val (.int dd), .val (.long yu), .second, .val (.int ce), .val (.int en), .val (.int (1 : Int32))] [(.ref b7), (.int dd), (.long yu), (.int ce), (.int en), (.int lo), (.int (24 : Int32)), (.ref b1), (.int (1 : Int32))]))
        obtain ⟨_, _, ⟨T66, L66, k66, n66⟩, -, X66, ⟨Lc66, hQ66, l66, y66, z66⟩, st66⟩ := Jvm.LawKit.callS X65 hx (y := (⟨"org/benli/core/MoneyToCharsPinLaw", "cell", "([CIIIIJI[J)Z"⟩ : MethodName)) hown (mvT hZ (hw _ (List.mem_of_getElem? (i := 37) rfl))) (mvT hZ (hw _ (List.mem_of_getElem? (i := 38) rfl))) (mvT hZ (hw _ (List.mem_of_getElem? (i := 39) rfl))) (mvT hZ (hw _ (List.mem_of_getElem? (i := 40) rfl))) (by decide) (backOf (W := 1) (own_rcell l Z a0 hw [] b1 (24 : Int32) lo en ce yu dd b7 k1 k7 g_46 Y C dn_46 N la 24 hh46 n0 Zs52 P46_0 f59 ⟨by decide, by decide⟩ hla.1 hen hNb hcc hy ⟨hdd, hd2⟩ hgv) hZ (hw _ (List.mem_of_getElem? (i := 40) rfl)) (hw _ (List.mem_of_getElem? (i := 39) rfl)) (by decide) (by decide)) (g := (mkF m 815 #[.val (.long q1), .second, .val (.int p2), .val (.int lo), .val (.ref b1), .val (.ref b7), .val (.int w_46), .val (.int ng), .val (.int dd), .val (.long yu), .second, .val (.int ce), .val (.int en), .val (.int (1 : Int32))] [(.ref b7), (.int dd), (.long yu), (.int ce), (.int en), (.int lo), (.int (24 : Int32)), (.ref b1), (.int (1 : Int32))])) rfl (by rw [hml]; rfl) (argsL := [(.ref b1), (.int (24 : Int32)), (.int lo), (.int en), (.int ce), (.long yu), (.int dd), (.ref b7)]) (rest := [(.int (1 : Int32))]) (lenOf own_pd785152518 rfl) rfl (by show 2 * 0 + _ ≤ _; exact Nat.le_of_eq rfl) (hb hby at_815) (fun _ _ => ⟨rfl, e65, (by decide : 2 + 0 ≤ room_1.cells), (by decide : 44 + 0 ≤ room_1.slots)⟩)
        dsimp only [Pt.U, Pt.locs, Pt.cells, Pt.slots] at X66 l66 y66 z66 st66 hQ66
        subst l66 y66 z66
        obtain ⟨hh66, eh066⟩ : ∃ z, T66.heap = z := ⟨_, rfl⟩
        rw [eh066] at hQ66
        obtain ⟨rfl, Nq66, eh66⟩ := hQ66
        have N66 := Fr.app N65 Nq66
        refine own_st st66 ?_
        have e66 : T66.heap = hh46 := eh066.trans eh66
        show own_Gl _ _ _ _ _ _ _ (T66.setTop (mkF m 818 #[.val (.long q1), .second, .val (.int p2), .val (.int lo), .val (.ref b1), .val (.ref b7), .val (.int w_46), .val (.int ng), .val (.int dd), .val (.long yu), .second, .val (.int ce), .val (.int en), .val (.int (1 : Int32))] [(.int (1 : Int32)), (.int (1 : Int32))]))
        refine own_st (fun _ k => XS.iand X66.here hx rfl (hb hby at_818) rfl k) ?_
        show own_Gl _ _ _ _ _ _ _ (T66.setTop (mkF m 819 #[.val (.long q1), .second, .val (.int p2), .val (.int lo), .val (.ref b1), .val (.ref b7), .val (.int w_46), .val (.int ng), .val (.int dd), .val (.long yu), .second, .val (.int ce), .val (.int en), .val (.int (1 : Int32))] [(.int (1 : Int32))]))
        refine own_st (fun _ k => XS.istore X66.here hx rfl (hb hby at_819) rfl (l' := #[.val (.long q1), .second, .val (.int p2), .val (.int lo), .val (.ref b1), .val (.ref b7), .val (.int w_46), .val (.int ng), .val (.int dd), .val (.long yu), .second, .val (.int ce), .val (.int en), .val (.int (1 : Int32))]) rfl k) ?_
        show own_Gl _ _ _ _ _ _ _ (T66.setTop (mkF m 821 #[.val (.long q1), .second, .val (.int p2), .val (.int lo), .val (.ref b1), .val (.ref b7), .val (.int w_46), .val (.int ng), .val (.int dd), .val (.long yu), .second, .val (.int ce), .val (.int en), .val (.int (1 : Int32))] []))
        refine own_st (fun _ k => XS.iload X66.here hx rfl (hb hby at_821) rfl k) ?_
        show own_Gl _ _ _ _ _ _ _ (T66.setTop (mkF m 823 #[.val (.long q1), .second, .val (.int p2), .val (.int lo), .val (.ref b1), .val (.ref b7), .val (.int w_46), .val (.int ng), .val (.int dd), .val (.long yu), .second, .val (.int ce), .val (.int en), .val (.int (1 : Int32))] [(.int (1 : Int32))]))
        refine own_st (fun _ k => XS.aload X66.here hx rfl (hb hby at_823) rfl rfl k) ?_
        show own_Gl _ _ _ _ _ _ _ (T66.setTop (mkF m 825 #[.val (.long q1), .second, .val (.int p2), .val (.int lo), .val (.ref b1), .val (.ref b7), .val (.int w_46), .val (.int ng), .val (.int dd), .val (.long yu), .second, .val (.int ce), .val (.int en), .val (.int (1 : Int32))] [(.ref b1), (.int (1 : Int32))]))
        refine own_st (fun _ k => XS.bipush X66.here hx rfl (hb hby at_825) k) ?_
        show own_Gl _ _ _ _ _ _ _ (T66.setTop (mkF m 827 #[.val (.long q1), .second, .val (.int p2), .val (.int lo), .val (.ref b1), .val (.ref b7), .val (.int w_46), .val (.int ng), .val (.int dd), .val (.long yu), .second, .val (.int ce), .val (.int en), .val (.int (1 : Int32))] [(.int (25 : Int32)), (.ref b1), (.int (1 : Int32))]))
        refine own_st (fun _ k => XS.iloadN X66.here hx rfl (hb hby at_827) rfl k) ?_
        show own_Gl _ _ _ _ _ _ _ (T66.setTop (mkF m 828 #[.val (.long q1), .second, .val (.int p2), .val (.int lo), .val (.ref b1), .val (.ref b7), .val (.int w_46), .val (.int ng), .val (.int dd), .val (.long yu), .second, .val (.int ce), .val (.int en), .val (.int (1 : Int32))] [(.int lo), (.int (25 : Int32)), (.ref b1), (.int (1 : Int32))]))
        refine own_st (fun _ k => XS.iload X66.here hx rfl (hb hby at_828) rfl k) ?_
        show own_Gl _ _ _ _ _ _ _ (T66.setTop (mkF m 830 #[.val (.long q1), .second, .val (.int p2), .val (.int lo), .val (.ref b1), .val (.ref b7), .val (.int w_46), .val (.int ng), .val (.int dd), .val (.long yu), .second, .val (.int ce), .val (.int en), .val (.int (1 : Int32))] [(.int en), (.int lo), (.int (25 : Int32)), (.ref b1), (.int (1 : Int32))]))
        refine own_st (fun _ k => XS.iload X66.here hx rfl (hb hby at_830) rfl k) ?_
        show own_Gl _ _ _ _ _ _ _ (T66.setTop (mkF m 832 #[.val (.long q1), .second, .val (.int p2), .val (.int lo), .val (.ref b1), .val (.ref b7), .val (.int w_46), .val (.int ng), .val (.int dd), .val (.long yu), .second, .val (.int ce), .val (.int en), .val (.int (1 : Int32))] [(.int ce), (.int en), (.int lo), (.int (25 : Int32)), (.ref b1), (.int (1 : Int32))]))
        refine own_st (fun _ k => XS.lload X66.here hx rfl (hb hby at_832) rfl k) ?_
        show own_Gl _ _ _ _ _ _ _ (T66.setTop (mkF m 834 #[.val (.long q1), .second, .val (.int p2), .val (.int lo), .val (.ref b1), .val (.ref b7), .val (.int w_46), .val (.int ng), .val (.int dd), .val (.long yu), .second, .val (.int ce), .val (.int en), .val (.int (1 : Int32))] [(.long yu), (.int ce), (.int en), (.int lo), (.int (25 : Int32)), (.ref b1), (.int (1 : Int32))]))
        refine own_st (fun _ k => XS.iload X66.here hx rfl (hb hby at_834) rfl k) ?_
        show own_Gl _ _ _ _ _ _ _ (T66.setTop (mkF m 836 #[.val (.long q1), .second, .val (.int p2), .val (.int lo), .val (.ref b1), .val (.ref b7), .val (.int w_46), .val (.int ng), .val (.int dd), .val (.long yu), .second, .val (.int ce), .val (.int en), .val (.int (1 : Int32))] [(.int dd), (.long yu), (.int ce), (.int en), (.int lo), (.int (25 : Int32)), (.ref b1), (.int (1 : Int32))]))
        refine own_st (fun _ k => XS.aload X66.here hx rfl (hb hby at_836) rfl rfl k) ?_
        show own_Gl _ _ _ _ _ _ _ (T66.setTop (mkF m 838 #[.val (.long q1), .second, .val (.int p2), .val (.int lo), .val (.ref b1), .val (.ref b7), .val (.int w_46), .val (.int ng), .val (.int dd), .val (.long yu), .second, .val (.int ce), .val (.int en), .val (.int (1 : Int32))] [(.ref b7), (.int dd), (.long yu), (.int ce), (.int en), (.int lo), (.int (25 : Int32)), (.ref b1), (.int (1 : Int32))]))
        obtain ⟨_, _, ⟨T67, L67, k67, n67⟩, -, X67, ⟨Lc67, hQ67, l67, y67, z67⟩, st67⟩ := Jvm.LawKit.callS X66 hx (y := (⟨"org/benli/core/MoneyToCharsPinLaw", "cell", "([CIIIIJI[J)Z"⟩ : MethodName)) hown (mvT hZ (hw _ (List.mem_of_getElem? (i := 37) rfl))) (mvT hZ (hw _ (List.mem_of_getElem? (i := 38) rfl))) (mvT hZ (hw _ (List.mem_of_getElem? (i := 39) rfl))) (mvT hZ (hw _ (List.mem_of_getElem? (i := 40) rfl))) (by decide) (backOf (W := 1) (own_rcell l Z a0 hw [] b1 (25 : Int32) lo en ce yu dd b7 k1 k7 g_46 Y C dn_46 N la 25 hh46 n0 Zs52 P46_0 f59 ⟨by decide, by decide⟩ hla.1 hen hNb hcc hy ⟨hdd, hd2⟩ hgv) hZ (hw _ (List.mem_of_getElem? (i := 40) rfl)) (hw _ (List.mem_of_getElem? (i := 39) rfl)) (by decide) (by decide)) (g := (mkF m 838 #[.val (.long q1), .second, .val (.int p2), .val (.int lo), .val (.ref b1), .val (.ref b7), .val (.int w_46), .val (.int ng), .val (.int dd), .val (.long yu), .second, .val (.int ce), .val (.int en), .val (.int (1 : Int32))] [(.ref b7), (.int dd), (.long yu), (.int ce), (.int en), (.int lo), (.int (25 : Int32)), (.ref b1), (.int (1 : Int32))])) rfl (by rw [hml]; rfl) (argsL := [(.ref b1), (.int (25 : Int32)), (.int lo), (.int en), (.int ce), (.long yu), (.int dd), (.ref b7)]) (rest := [(.int (1 : Int32))]) (lenOf own_pd785152518 rfl) rfl (by show 2 * 0 + _ ≤ _; exact Nat.le_of_eq rfl) (hb hby at_838) (fun _ _ => ⟨rfl, e66, (by decide : 2 + 0 ≤ room_1.cells), (by decide : 44 + 0 ≤ room_1.slots)⟩)
        dsimp only [Pt.U, Pt.locs, Pt.cells, Pt.slots] at X67 l67 y67 z67 st67 hQ67
        subst l67 y67 z67
        obtain ⟨hh67, eh067⟩ : ∃ z, T67.heap = z := ⟨_, rfl⟩
        rw [eh067] at hQ67
        obtain ⟨rfl, Nq67, eh67⟩ := hQ67
        have N67 := Fr.app N66 Nq67
        refine own_st st67 ?_
        have e67 : T67.heap = hh46 := eh067.trans eh67
        show own_Gl _ _ _ _ _ _ _ (T67.setTop (mkF m 841 #[.val (.long q1), .second, .val (.int p2), .val (.int lo), .val (.ref b1), .val (.ref b7), .val (.int w_46), .val (.int ng), .val (.int dd), .val (.long yu), .second, .val (.int ce), .val (.int en), .val (.int (1 : Int32))] [(.int (1 : Int32)), (.int (1 : Int32))]))
        refine own_st (fun _ k => XS.iand X67.here hx rfl (hb hby at_841) rfl k) ?_
        show own_Gl _ _ _ _ _ _ _ (T67.setTop (mkF m 842 #[.val (.long q1), .second, .val (.int p2), .val (.int lo), .val (.ref b1), .val (.ref b7), .val (.int w_46), .val (.int ng), .val (.int dd), .val (.long yu), .second, .val (.int ce), .val (.int en), .val (.int (1 : Int32))] [(.int (1 : Int32))]))
        refine own_st (fun _ k => XS.istore X67.here hx rfl (hb hby at_842) rfl (l' := #[.val (.long q1), .second, .val (.int p2), .val (.int lo), .val (.ref b1), .val (.ref b7), .val (.int w_46), .val (.int ng), .val (.int dd), .val (.long yu), .second, .val (.int ce), .val (.int en), .val (.int (1 : Int32))]) rfl k) ?_
        show own_Gl _ _ _ _ _ _ _ (T67.setTop (mkF m 844 #[.val (.long q1), .second, .val (.int p2), .val (.int lo), .val (.ref b1), .val (.ref b7), .val (.int w_46), .val (.int ng), .val (.int dd), .val (.long yu), .second, .val (.int ce), .val (.int en), .val (.int (1 : Int32))] []))
        refine own_st (fun _ k => XS.iload X67.here hx rfl (hb hby at_844) rfl k) ?_
        show own_Gl _ _ _ _ _ _ _ (T67.setTop (mkF m 846 #[.val (.long q1), .second, .val (.int p2), .val (.int lo), .val (.ref b1), .val (.ref b7), .val (.int w_46), .val (.int ng), .val (.int dd), .val (.long yu), .second, .val (.int ce), .val (.int en), .val (.int (1 : Int32))] [(.int (1 : Int32))]))
        exact own_retN X67 hx hlk (t := .boolean) hret (by simp) (hb hby at_846) e67 ⟨rfl, N67⟩ (by decide) (by decide)
      have J706_68 : ∀ (T68 : State) (LL68 : List Loc) (N68 : Fr n0 LL68) (X68 : Stand p l e room_1 s m #[(.long q1), (.int p2)] below meth c T68 LL68 2 44) (e68 : T68.heap = hh46), own_Gl p e below s (own_Q_own_law Z q1 p2 oa ta ko kt h0 n0) room_1.cells room_1.slots (T68.setTop (mkF m 706 #[.val (.long q1), .second, .val (.int p2), .val (.int lo), .val (.ref b1), .val (.ref b7), .val (.int w_46), .val (.int ng), .val (.int dd), .val (.long yu), .second, .val (.int ce), .val (.int en), .val (.int (1 : Int32))] [])) := by
        intro T68 LL68 N68 X68 e68
        show own_Gl _ _ _ _ _ _ _ (T68.setTop (mkF m 706 #[.val (.long q1), .second, .val (.int p2), .val (.int lo), .val (.ref b1), .val (.ref b7), .val (.int w_46), .val (.int ng), .val (.int dd), .val (.long yu), .second, .val (.int ce), .val (.int en), .val (.int (1 : Int32))] []))
        refine own_st (fun _ k => XS.iload X68.here hx rfl (hb hby at_706) rfl k) ?_
        show own_Gl _ _ _ _ _ _ _ (T68.setTop (mkF m 708 #[.val (.long q1), .second, .val (.int p2), .val (.int lo), .val (.ref b1), .val (.ref b7), .val (.int w_46), .val (.int ng), .val (.int dd), .val (.long yu), .second, .val (.int ce), .val (.int en), .val (.int (1 : Int32))] [(.int (1 : Int32))]))
        refine own_st (fun _ k => XS.aload X68.here hx rfl (hb hby at_708) rfl rfl k) ?_
        show own_Gl _ _ _ _ _ _ _ (T68.setTop (mkF m 710 #[.val (.long q1), .second, .val (.int p2), .val (.int lo), .val (.ref b1), .val (.ref b7), .val (.int w_46), .val (.int ng), .val (.int dd), .val (.long yu), .second, .val (.int ce), .val (.int en), .val (.int (1 : Int32))] [(.ref b1), (.int (1 : Int32))]))
        refine own_st (fun _ k => XS.bipush X68.here hx rfl (hb hby at_710) k) ?_
        show own_Gl _ _ _ _ _ _ _ (T68.setTop (mkF m 712 #[.val (.long q1), .second, .val (.int p2), .val (.int lo), .val (.ref b1), .val (.ref b7), .val (.int w_46), .val (.int ng), .val (.int dd), .val (.long yu), .second, .val (.int ce), .val (.int en), .val (.int (1 : Int32))] [(.int (20 : Int32)), (.ref b1), (.int (1 : Int32))]))
        refine own_st (fun _ k => XS.iloadN X68.here hx rfl (hb hby at_712) rfl k) ?_
        show own_Gl _ _ _ _ _ _ _ (T68.setTop (mkF m 713 #[.val (.long q1), .second, .val (.int p2), .val (.int lo), .val (.ref b1), .val (.ref b7), .val (.int w_46), .val (.int ng), .val (.int dd), .val (.long yu), .second, .val (.int ce), .val (.int en), .val (.int (1 : Int32))] [(.int lo), (.int (20 : Int32)), (.ref b1), (.int (1 : Int32))]))
        refine own_st (fun _ k => XS.iload X68.here hx rfl (hb hby at_713) rfl k) ?_
        show own_Gl _ _ _ _ _ _ _ (T68.setTop (mkF m 715 #[.val (.long q1), .second, .val (.int p2), .val (.int lo), .val (.ref b1), .val (.ref b7), .val (.int w_46), .val (.int ng), .val (.int dd), .val (.long yu), .second, .val (.int ce), .val (.int en), .val (.int (1 : Int32))] [(.int en), (.int lo), (.int (20 : Int32)), (.ref b1), (.int (1 : Int32))]))
        refine own_st (fun _ k => XS.iload X68.here hx rfl (hb hby at_715) rfl k) ?_
        show own_Gl _ _ _ _ _ _ _ (T68.setTop (mkF m 717 #[.val (.long q1), .second, .val (.int p2), .val (.int lo), .val (.ref b1), .val (.ref b7), .val (.int w_46), .val (.int ng), .val (.int dd), .val (.long yu), .second, .val (.int ce), .val (.int en), .val (.int (1 : Int32))] [(.int ce), (.int en), (.int lo), (.int (20 : Int32)), (.ref b1), (.int (1 : Int32))]))
        refine own_st (fun _ k => XS.lload X68.here hx rfl (hb hby at_717) rfl k) ?_
        show own_Gl _ _ _ _ _ _ _ (T68.setTop (mkF m 719 #[.val (.long q1), .second, .val (.int p2), .val (.int lo), .val (.ref b1), .val (.ref b7), .val (.int w_46), .val (.int ng), .val (.int dd), .val (.long yu), .second, .val (.int ce), .val (.int en), .val (.int (1 : Int32))] [(.long yu), (.int ce), (.int en), (.int lo), (.int (20 : Int32)), (.ref b1), (.int (1 : Int32))]))
        refine own_st (fun _ k => XS.iload X68.here hx rfl (hb hby at_719) rfl k) ?_
        show own_Gl _ _ _ _ _ _ _ (T68.setTop (mkF m 721 #[.val (.long q1), .second, .val (.int p2), .val (.int lo), .val (.ref b1), .val (.ref b7), .val (.int w_46), .val (.int ng), .val (.int dd), .val (.long yu), .second, .val (.int ce), .val (.int en), .val (.int (1 : Int32))] [(.int dd), (.long yu), (.int ce), (.int en), (.int lo), (.int (20 : Int32)), (.ref b1), (.int (1 : Int32))]))
        refine own_st (fun _ k => XS.aload X68.here hx rfl (hb hby at_721) rfl rfl k) ?_
        show own_Gl _ _ _ _ _ _ _ (T68.setTop (mkF m 723 #[.val (.long q1), .second, .val (.int p2), .val (.int lo), .val (.ref b1), .val (.ref b7), .val (.int w_46), .val (.int ng), .val (.int dd), .val (.long yu), .second, .val (.int ce), .val (.int en), .val (.int (1 : Int32))] [(.ref b7), (.int dd), (.long yu), (.int ce), (.int en), (.int lo), (.int (20 : Int32)), (.ref b1), (.int (1 : Int32))]))
        obtain ⟨_, _, ⟨T69, L69, k69, n69⟩, -, X69, ⟨Lc69, hQ69, l69, y69, z69⟩, st69⟩ := Jvm.LawKit.callS X68 hx (y := (⟨"org/benli/core/MoneyToCharsPinLaw", "cell", "([CIIIIJI[J)Z"⟩ : MethodName)) hown (mvT hZ (hw _ (List.mem_of_getElem? (i := 37) rfl))) (mvT hZ (hw _ (List.mem_of_getElem? (i := 38) rfl))) (mvT hZ (hw _ (List.mem_of_getElem? (i := 39) rfl))) (mvT hZ (hw _ (List.mem_of_getElem? (i := 40) rfl))) (by decide) (backOf (W := 1) (own_rcell l Z a0 hw [] b1 (20 : Int32) lo en ce yu dd b7 k1 k7 g_46 Y C dn_46 N la 20 hh46 n0 Zs52 P46_0 f59 ⟨by decide, by decide⟩ hla.1 hen hNb hcc hy ⟨hdd, hd2⟩ hgv) hZ (hw _ (List.mem_of_getElem? (i := 40) rfl)) (hw _ (List.mem_of_getElem? (i := 39) rfl)) (by decide) (by decide)) (g := (mkF m 723 #[.val (.long q1), .second, .val (.int p2), .val (.int lo), .val (.ref b1), .val (.ref b7), .val (.int w_46), .val (.int ng), .val (.int dd), .val (.long yu), .second, .val (.int ce), .val (.int en), .val (.int (1 : Int32))] [(.ref b7), (.int dd), (.long yu), (.int ce), (.int en), (.int lo), (.int (20 : Int32)), (.ref b1), (.int (1 : Int32))])) rfl (by rw [hml]; rfl) (argsL := [(.ref b1), (.int (20 : Int32)), (.int lo), (.int en), (.int ce), (.long yu), (.int dd), (.ref b7)]) (rest := [(.int (1 : Int32))]) (lenOf own_pd785152518 rfl) rfl (by show 2 * 0 + _ ≤ _; exact Nat.le_of_eq rfl) (hb hby at_723) (fun _ _ => ⟨rfl, e68, (by decide : 2 + 0 ≤ room_1.cells), (by decide : 44 + 0 ≤ room_1.slots)⟩)
        dsimp only [Pt.U, Pt.locs, Pt.cells, Pt.slots] at X69 l69 y69 z69 st69 hQ69
        subst l69 y69 z69
        obtain ⟨hh69, eh069⟩ : ∃ z, T69.heap = z := ⟨_, rfl⟩
        rw [eh069] at hQ69
        obtain ⟨rfl, Nq69, eh69⟩ := hQ69
        have N69 := Fr.app N68 Nq69
        refine own_st st69 ?_
        have e69 : T69.heap = hh46 := eh069.trans eh69
        show own_Gl _ _ _ _ _ _ _ (T69.setTop (mkF m 726 #[.val (.long q1), .second, .val (.int p2), .val (.int lo), .val (.ref b1), .val (.ref b7), .val (.int w_46), .val (.int ng), .val (.int dd), .val (.long yu), .second, .val (.int ce), .val (.int en), .val (.int (1 : Int32))] [(.int (1 : Int32)), (.int (1 : Int32))]))
        refine own_st (fun _ k => XS.iand X69.here hx rfl (hb hby at_726) rfl k) ?_
        show own_Gl _ _ _ _ _ _ _ (T69.setTop (mkF m 727 #[.val (.long q1), .second, .val (.int p2), .val (.int lo), .val (.ref b1), .val (.ref b7), .val (.int w_46), .val (.int ng), .val (.int dd), .val (.long yu), .second, .val (.int ce), .val (.int en), .val (.int (1 : Int32))] [(.int (1 : Int32))]))
        refine own_st (fun _ k => XS.istore X69.here hx rfl (hb hby at_727) rfl (l' := #[.val (.long q1), .second, .val (.int p2), .val (.int lo), .val (.ref b1), .val (.ref b7), .val (.int w_46), .val (.int ng), .val (.int dd), .val (.long yu), .second, .val (.int ce), .val (.int en), .val (.int (1 : Int32))]) rfl k) ?_
        show own_Gl _ _ _ _ _ _ _ (T69.setTop (mkF m 729 #[.val (.long q1), .second, .val (.int p2), .val (.int lo), .val (.ref b1), .val (.ref b7), .val (.int w_46), .val (.int ng), .val (.int dd), .val (.long yu), .second, .val (.int ce), .val (.int en), .val (.int (1 : Int32))] []))
        refine own_st (fun _ k => XS.iload X69.here hx rfl (hb hby at_729) rfl k) ?_
        show own_Gl _ _ _ _ _ _ _ (T69.setTop (mkF m 731 #[.val (.long q1), .second, .val (.int p2), .val (.int lo), .val (.ref b1), .val (.ref b7), .val (.int w_46), .val (.int ng), .val (.int dd), .val (.long yu), .second, .val (.int ce), .val (.int en), .val (.int (1 : Int32))] [(.int (1 : Int32))]))
        refine own_st (fun _ k => XS.aload X69.here hx rfl (hb hby at_731) rfl rfl k) ?_
        show own_Gl _ _ _ _ _ _ _ (T69.setTop (mkF m 733 #[.val (.long q1), .second, .val (.int p2), .val (.int lo), .val (.ref b1), .val (.ref b7), .val (.int w_46), .val (.int ng), .val (.int dd), .val (.long yu), .second, .val (.int ce), .val (.int en), .val (.int (1 : Int32))] [(.ref b1), (.int (1 : Int32))]))
        refine own_st (fun _ k => XS.bipush X69.here hx rfl (hb hby at_733) k) ?_
        show own_Gl _ _ _ _ _ _ _ (T69.setTop (mkF m 735 #[.val (.long q1), .second, .val (.int p2), .val (.int lo), .val (.ref b1), .val (.ref b7), .val (.int w_46), .val (.int ng), .val (.int dd), .val (.long yu), .second, .val (.int ce), .val (.int en), .val (.int (1 : Int32))] [(.int (21 : Int32)), (.ref b1), (.int (1 : Int32))]))
        refine own_st (fun _ k => XS.iloadN X69.here hx rfl (hb hby at_735) rfl k) ?_
        show own_Gl _ _ _ _ _ _ _ (T69.setTop (mkF m 736 #[.val (.long q1), .second, .val (.int p2), .val (.int lo), .val (.ref b1), .val (.ref b7), .val (.int w_46), .val (.int ng), .val (.int dd), .val (.long yu), .second, .val (.int ce), .val (.int en), .val (.int (1 : Int32))] [(.int lo), (.int (21 : Int32)), (.ref b1), (.int (1 : Int32))]))
        refine own_st (fun _ k => XS.iload X69.here hx rfl (hb hby at_736) rfl k) ?_
        show own_Gl _ _ _ _ _ _ _ (T69.setTop (mkF m 738 #[.val (.long q1), .second, .val (.int p2), .val (.int lo), .val (.ref b1), .val (.ref b7), .val (.int w_46), .val (.int ng), .val (.int dd), .val (.long yu), .second, .val (.int ce), .val (.int en), .val (.int (1 : Int32))] [(.int en), (.int lo), (.int (21 : Int32)), (.ref b1), (.int (1 : Int32))]))
        refine own_st (fun _ k => XS.iload X69.here hx rfl (hb hby at_738) rfl k) ?_
        show own_Gl _ _ _ _ _ _ _ (T69.setTop (mkF m 740 #[.val (.long q1), .second, .val (.int p2), .val (.int lo), .val (.ref b1), .val (.ref b7), .val (.int w_46), .val (.int ng), .val (.int dd), .val (.long yu), .second, .val (.int ce), .val (.int en), .val (.int (1 : Int32))] [(.int ce), (.int en), (.int lo), (.int (21 : Int32)), (.ref b1), (.int (1 : Int32))]))
        refine own_st (fun _ k => XS.lload X69.here hx rfl (hb hby at_740) rfl k) ?_
        show own_Gl _ _ _ _ _ _ _ (T69.setTop (mkF m 742 #[.val (.long q1), .second, .val (.int p2), .val (.int lo), .val (.ref b1), .val (.ref b7), .val (.int w_46), .val (.int ng), .val (.int dd), .val (.long yu), .second, .val (.int ce), .val (.int en), .val (.int (1 : Int32))] [(.long yu), (.int ce), (.int en), (.int lo), (.int (21 : Int32)), (.ref b1), (.int (1 : Int32))]))
        refine own_st (fun _ k => XS.iload X69.here hx rfl (hb hby at_742) rfl k) ?_
        show own_Gl _ _ _ _ _ _ _ (T69.setTop (mkF m 744 #[.val (.long q1), .second, .val (.int p2), .val (.int lo), .val (.ref b1), .val (.ref b7), .val (.int w_46), .val (.int ng), .val (.int dd), .val (.long yu), .second, .val (.int ce), .val (.int en), .val (.int (1 : Int32))] [(.int dd), (.long yu), (.int ce), (.int en), (.int lo), (.int (21 : Int32)), (.ref b1), (.int (1 : Int32))]))
        refine own_st (fun _ k => XS.aload X69.here hx rfl (hb hby at_744) rfl rfl k) ?_
        show own_Gl _ _ _ _ _ _ _ (T69.setTop (mkF m 746 #[.val (.long q1), .second, .val (.int p2), .val (.int lo), .val (.ref b1), .val (.ref b7), .val (.int w_46), .val (.int ng), .val (.int dd), .val (.long yu), .second, .val (.int ce), .val (.int en), .val (.int (1 : Int32))] [(.ref b7), (.int dd), (.long yu), (.int ce), (.int en), (.int lo), (.int (21 : Int32)), (.ref b1), (.int (1 : Int32))]))
        obtain ⟨_, _, ⟨T70, L70, k70, n70⟩, -, X70, ⟨Lc70, hQ70, l70, y70, z70⟩, st70⟩ := Jvm.LawKit.callS X69 hx (y := (⟨"org/benli/core/MoneyToCharsPinLaw", "cell", "([CIIIIJI[J)Z"⟩ : MethodName)) hown (mvT hZ (hw _ (List.mem_of_getElem? (i := 37) rfl))) (mvT hZ (hw _ (List.mem_of_getElem? (i := 38) rfl))) (mvT hZ (hw _ (List.mem_of_getElem? (i := 39) rfl))) (mvT hZ (hw _ (List.mem_of_getElem? (i := 40) rfl))) (by decide) (backOf (W := 1) (own_rcell l Z a0 hw [] b1 (21 : Int32) lo en ce yu dd b7 k1 k7 g_46 Y C dn_46 N la 21 hh46 n0 Zs52 P46_0 f59 ⟨by decide, by decide⟩ hla.1 hen hNb hcc hy ⟨hdd, hd2⟩ hgv) hZ (hw _ (List.mem_of_getElem? (i := 40) rfl)) (hw _ (List.mem_of_getElem? (i := 39) rfl)) (by decide) (by decide)) (g := (mkF m 746 #[.val (.long q1), .second, .val (.int p2), .val (.int lo), .val (.ref b1), .val (.ref b7), .val (.int w_46), .val (.int ng), .val (.int dd), .val (.long yu), .second, .val (.int ce), .val (.int en), .val (.int (1 : Int32))] [(.ref b7), (.int dd), (.long yu), (.int ce), (.int en), (.int lo), (.int (21 : Int32)), (.ref b1), (.int (1 : Int32))])) rfl (by rw [hml]; rfl) (argsL := [(.ref b1), (.int (21 : Int32)), (.int lo), (.int en), (.int ce), (.long yu), (.int dd), (.ref b7)]) (rest := [(.int (1 : Int32))]) (lenOf own_pd785152518 rfl) rfl (by show 2 * 0 + _ ≤ _; exact Nat.le_of_eq rfl) (hb hby at_746) (fun _ _ => ⟨rfl, e69, (by decide : 2 + 0 ≤ room_1.cells), (by decide : 44 + 0 ≤ room_1.slots)⟩)
        dsimp only [Pt.U, Pt.locs, Pt.cells, Pt.slots] at X70 l70 y70 z70 st70 hQ70
        subst l70 y70 z70
        obtain ⟨hh70, eh070⟩ : ∃ z, T70.heap = z := ⟨_, rfl⟩
        rw [eh070] at hQ70
        obtain ⟨rfl, Nq70, eh70⟩ := hQ70
        have N70 := Fr.app N69 Nq70
        refine own_st st70 ?_
        have e70 : T70.heap = hh46 := eh070.trans eh70
        show own_Gl _ _ _ _ _ _ _ (T70.setTop (mkF m 749 #[.val (.long q1), .second, .val (.int p2), .val (.int lo), .val (.ref b1), .val (.ref b7), .val (.int w_46), .val (.int ng), .val (.int dd), .val (.long yu), .second, .val (.int ce), .val (.int en), .val (.int (1 : Int32))] [(.int (1 : Int32)), (.int (1 : Int32))]))
        refine own_st (fun _ k => XS.iand X70.here hx rfl (hb hby at_749) rfl k) ?_
        show own_Gl _ _ _ _ _ _ _ (T70.setTop (mkF m 750 #[.val (.long q1), .second, .val (.int p2), .val (.int lo), .val (.ref b1), .val (.ref b7), .val (.int w_46), .val (.int ng), .val (.int dd), .val (.long yu), .second, .val (.int ce), .val (.int en), .val (.int (1 : Int32))] [(.int (1 : Int32))]))
        refine own_st (fun _ k => XS.istore X70.here hx rfl (hb hby at_750) rfl (l' := #[.val (.long q1), .second, .val (.int p2), .val (.int lo), .val (.ref b1), .val (.ref b7), .val (.int w_46), .val (.int ng), .val (.int dd), .val (.long yu), .second, .val (.int ce), .val (.int en), .val (.int (1 : Int32))]) rfl k) ?_
        show own_Gl _ _ _ _ _ _ _ (T70.setTop (mkF m 752 #[.val (.long q1), .second, .val (.int p2), .val (.int lo), .val (.ref b1), .val (.ref b7), .val (.int w_46), .val (.int ng), .val (.int dd), .val (.long yu), .second, .val (.int ce), .val (.int en), .val (.int (1 : Int32))] []))
        refine own_st (fun _ k => XS.iload X70.here hx rfl (hb hby at_752) rfl k) ?_
        show own_Gl _ _ _ _ _ _ _ (T70.setTop (mkF m 754 #[.val (.long q1), .second, .val (.int p2), .val (.int lo), .val (.ref b1), .val (.ref b7), .val (.int w_46), .val (.int ng), .val (.int dd), .val (.long yu), .second, .val (.int ce), .val (.int en), .val (.int (1 : Int32))] [(.int (1 : Int32))]))
        refine own_st (fun _ k => XS.aload X70.here hx rfl (hb hby at_754) rfl rfl k) ?_
        show own_Gl _ _ _ _ _ _ _ (T70.setTop (mkF m 756 #[.val (.long q1), .second, .val (.int p2), .val (.int lo), .val (.ref b1), .val (.ref b7), .val (.int w_46), .val (.int ng), .val (.int dd), .val (.long yu), .second, .val (.int ce), .val (.int en), .val (.int (1 : Int32))] [(.ref b1), (.int (1 : Int32))]))
        refine own_st (fun _ k => XS.bipush X70.here hx rfl (hb hby at_756) k) ?_
        show own_Gl _ _ _ _ _ _ _ (T70.setTop (mkF m 758 #[.val (.long q1), .second, .val (.int p2), .val (.int lo), .val (.ref b1), .val (.ref b7), .val (.int w_46), .val (.int ng), .val (.int dd), .val (.long yu), .second, .val (.int ce), .val (.int en), .val (.int (1 : Int32))] [(.int (22 : Int32)), (.ref b1), (.int (1 : Int32))]))
        refine own_st (fun _ k => XS.iloadN X70.here hx rfl (hb hby at_758) rfl k) ?_
        show own_Gl _ _ _ _ _ _ _ (T70.setTop (mkF m 759 #[.val (.long q1), .second, .val (.int p2), .val (.int lo), .val (.ref b1), .val (.ref b7), .val (.int w_46), .val (.int ng), .val (.int dd), .val (.long yu), .second, .val (.int ce), .val (.int en), .val (.int (1 : Int32))] [(.int lo), (.int (22 : Int32)), (.ref b1), (.int (1 : Int32))]))
        refine own_st (fun _ k => XS.iload X70.here hx rfl (hb hby at_759) rfl k) ?_
        show own_Gl _ _ _ _ _ _ _ (T70.setTop (mkF m 761 #[.val (.long q1), .second, .val (.int p2), .val (.int lo), .val (.ref b1), .val (.ref b7), .val (.int w_46), .val (.int ng), .val (.int dd), .val (.long yu), .second, .val (.int ce), .val (.int en), .val (.int (1 : Int32))] [(.int en), (.int lo), (.int (22 : Int32)), (.ref b1), (.int (1 : Int32))]))
        refine own_st (fun _ k => XS.iload X70.here hx rfl (hb hby at_761) rfl k) ?_
        show own_Gl _ _ _ _ _ _ _ (T70.setTop (mkF m 763 #[.val (.long q1), .second, .val (.int p2), .val (.int lo), .val (.ref b1), .val (.ref b7), .val (.int w_46), .val (.int ng), .val (.int dd), .val (.long yu), .second, .val (.int ce), .val (.int en), .val (.int (1 : Int32))] [(.int ce), (.int en), (.int lo), (.int (22 : Int32)), (.ref b1), (.int (1 : Int32))]))
        refine own_st (fun _ k => XS.lload X70.here hx rfl (hb hby at_763) rfl k) ?_
        show own_Gl _ _ _ _ _ _ _ (T70.setTop (mkF m 765 #[.val (.long q1), .second, .val (.int p2), .val (.int lo), .val (.ref b1), .val (.ref b7), .val (.int w_46), .val (.int ng), .val (.int dd), .val (.long yu), .second, .val (.int ce), .val (.int en), .val (.int (1 : Int32))] [(.long yu), (.int ce), (.int en), (.int lo), (.int (22 : Int32)), (.ref b1), (.int (1 : Int32))]))
        refine own_st (fun _ k => XS.iload X70.here hx rfl (hb hby at_765) rfl k) ?_
        show own_Gl _ _ _ _ _ _ _ (T70.setTop (mkF m 767 #[.val (.long q1), .second, .val (.int p2), .val (.int lo), .val (.ref b1), .val (.ref b7), .val (.int w_46), .val (.int ng), .val (.int dd), .val (.long yu), .second, .val (.int ce), .val (.int en), .val (.int (1 : Int32))] [(.int dd), (.long yu), (.int ce), (.int en), (.int lo), (.int (22 : Int32)), (.ref b1), (.int (1 : Int32))]))
        refine own_st (fun _ k => XS.aload X70.here hx rfl (hb hby at_767) rfl rfl k) ?_
        show own_Gl _ _ _ _ _ _ _ (T70.setTop (mkF m 769 #[.val (.long q1), .second, .val (.int p2), .val (.int lo), .val (.ref b1), .val (.ref b7), .val (.int w_46), .val (.int ng), .val (.int dd), .val (.long yu), .second, .val (.int ce), .val (.int en), .val (.int (1 : Int32))] [(.ref b7), (.int dd), (.long yu), (.int ce), (.int en), (.int lo), (.int (22 : Int32)), (.ref b1), (.int (1 : Int32))]))
        obtain ⟨_, _, ⟨T71, L71, k71, n71⟩, -, X71, ⟨Lc71, hQ71, l71, y71, z71⟩, st71⟩ := Jvm.LawKit.callS X70 hx (y := (⟨"org/benli/core/MoneyToCharsPinLaw", "cell", "([CIIIIJI[J)Z"⟩ : MethodName)) hown (mvT hZ (hw _ (List.mem_of_getElem? (i := 37) rfl))) (mvT hZ (hw _ (List.mem_of_getElem? (i := 38) rfl))) (mvT hZ (hw _ (List.mem_of_getElem? (i := 39) rfl))) (mvT hZ (hw _ (List.mem_of_getElem? (i := 40) rfl))) (by decide) (backOf (W := 1) (own_rcell l Z a0 hw [] b1 (22 : Int32) lo en ce yu dd b7 k1 k7 g_46 Y C dn_46 N la 22 hh46 n0 Zs52 P46_0 f59 ⟨by decide, by decide⟩ hla.1 hen hNb hcc hy ⟨hdd, hd2⟩ hgv) hZ (hw _ (List.mem_of_getElem? (i := 40) rfl)) (hw _ (List.mem_of_getElem? (i := 39) rfl)) (by decide) (by decide)) (g := (mkF m 769 #[.val (.long q1), .second, .val (.int p2), .val (.int lo), .val (.ref b1), .val (.ref b7), .val (.int w_46), .val (.int ng), .val (.int dd), .val (.long yu), .second, .val (.int ce), .val (.int en), .val (.int (1 : Int32))] [(.ref b7), (.int dd), (.long yu), (.int ce), (.int en), (.int lo), (.int (22 : Int32)), (.ref b1), (.int (1 : Int32))])) rfl (by rw [hml]; rfl) (argsL := [(.ref b1), (.int (22 : Int32)), (.int lo), (.int en), (.int ce), (.long yu), (.int dd), (.ref b7)]) (rest := [(.int (1 : Int32))]) (lenOf own_pd785152518 rfl) rfl (by show 2 * 0 + _ ≤ _; exact Nat.le_of_eq rfl) (hb hby at_769) (fun _ _ => ⟨rfl, e70, (by decide : 2 + 0 ≤ room_1.cells), (by decide : 44 + 0 ≤ room_1.slots)⟩)
        dsimp only [Pt.U, Pt.locs, Pt.cells, Pt.slots] at X71 l71 y71 z71 st71 hQ71
        subst l71 y71 z71
        obtain ⟨hh71, eh071⟩ : ∃ z, T71.heap = z := ⟨_, rfl⟩
        rw [eh071] at hQ71
        obtain ⟨rfl, Nq71, eh71⟩ := hQ71
        have N71 := Fr.app N70 Nq71
        refine own_st st71 ?_
        have e71 : T71.heap = hh46 := eh071.trans eh71
        show own_Gl _ _ _ _ _ _ _ (T71.setTop (mkF m 772 #[.val (.long q1), .second, .val (.int p2), .val (.int lo), .val (.ref b1), .val (.ref b7), .val (.int w_46), .val (.int ng), .val (.int dd), .val (.long yu), .second, .val (.int ce), .val (.int en), .val (.int (1 : Int32))] [(.int (1 : Int32)), (.int (1 : Int32))]))
        refine own_st (fun _ k => XS.iand X71.here hx rfl (hb hby at_772) rfl k) ?_
        show own_Gl _ _ _ _ _ _ _ (T71.setTop (mkF m 773 #[.val (.long q1), .second, .val (.int p2), .val (.int lo), .val (.ref b1), .val (.ref b7), .val (.int w_46), .val (.int ng), .val (.int dd), .val (.long yu), .second, .val (.int ce), .val (.int en), .val (.int (1 : Int32))] [(.int (1 : Int32))]))
        refine own_st (fun _ k => XS.istore X71.here hx rfl (hb hby at_773) rfl (l' := #[.val (.long q1), .second, .val (.int p2), .val (.int lo), .val (.ref b1), .val (.ref b7), .val (.int w_46), .val (.int ng), .val (.int dd), .val (.long yu), .second, .val (.int ce), .val (.int en), .val (.int (1 : Int32))]) rfl k) ?_
        show own_Gl _ _ _ _ _ _ _ (T71.setTop (mkF m 775 #[.val (.long q1), .second, .val (.int p2), .val (.int lo), .val (.ref b1), .val (.ref b7), .val (.int w_46), .val (.int ng), .val (.int dd), .val (.long yu), .second, .val (.int ce), .val (.int en), .val (.int (1 : Int32))] []))
        show own_Gl _ _ _ _ _ _ _ (T71.setTop (mkF m 775 #[.val (.long q1), .second, .val (.int p2), .val (.int lo), .val (.ref b1), .val (.ref b7), .val (.int w_46), .val (.int ng), .val (.int dd), .val (.long yu), .second, .val (.int ce), .val (.int en), .val (.int (1 : Int32))] []))
        exact J775_64 T71 _ N71 X71 e71
      have J637_72 : ∀ (T72 : State) (LL72 : List Loc) (N72 : Fr n0 LL72) (X72 : Stand p l e room_1 s m #[(.long q1), (.int p2)] below meth c T72 LL72 2 44) (e72 : T72.heap = hh46), own_Gl p e below s (own_Q_own_law Z q1 p2 oa ta ko kt h0 n0) room_1.cells room_1.slots (T72.setTop (mkF m 637 #[.val (.long q1), .second, .val (.int p2), .val (.int lo), .val (.ref b1), .val (.ref b7), .val (.int w_46), .val (.int ng), .val (.int dd), .val (.long yu), .second, .val (.int ce), .val (.int en), .val (.int (1 : Int32))] [])) := by
        intro T72 LL72 N72 X72 e72
        show own_Gl _ _ _ _ _ _ _ (T72.setTop (mkF m 637 #[.val (.long q1), .second, .val (.int p2), .val (.int lo), .val (.ref b1), .val (.ref b7), .val (.int w_46), .val (.int ng), .val (.int dd), .val (.long yu), .second, .val (.int ce), .val (.int en), .val (.int (1 : Int32))] []))
        refine own_st (fun _ k => XS.iload X72.here hx rfl (hb hby at_637) rfl k) ?_
        show own_Gl _ _ _ _ _ _ _ (T72.setTop (mkF m 639 #[.val (.long q1), .second, .val (.int p2), .val (.int lo), .val (.ref b1), .val (.ref b7), .val (.int w_46), .val (.int ng), .val (.int dd), .val (.long yu), .second, .val (.int ce), .val (.int en), .val (.int (1 : Int32))] [(.int (1 : Int32))]))
        refine own_st (fun _ k => XS.aload X72.here hx rfl (hb hby at_639) rfl rfl k) ?_
        show own_Gl _ _ _ _ _ _ _ (T72.setTop (mkF m 641 #[.val (.long q1), .second, .val (.int p2), .val (.int lo), .val (.ref b1), .val (.ref b7), .val (.int w_46), .val (.int ng), .val (.int dd), .val (.long yu), .second, .val (.int ce), .val (.int en), .val (.int (1 : Int32))] [(.ref b1), (.int (1 : Int32))]))
        refine own_st (fun _ k => XS.bipush X72.here hx rfl (hb hby at_641) k) ?_
        show own_Gl _ _ _ _ _ _ _ (T72.setTop (mkF m 643 #[.val (.long q1), .second, .val (.int p2), .val (.int lo), .val (.ref b1), .val (.ref b7), .val (.int w_46), .val (.int ng), .val (.int dd), .val (.long yu), .second, .val (.int ce), .val (.int en), .val (.int (1 : Int32))] [(.int (17 : Int32)), (.ref b1), (.int (1 : Int32))]))
        refine own_st (fun _ k => XS.iloadN X72.here hx rfl (hb hby at_643) rfl k) ?_
        show own_Gl _ _ _ _ _ _ _ (T72.setTop (mkF m 644 #[.val (.long q1), .second, .val (.int p2), .val (.int lo), .val (.ref b1), .val (.ref b7), .val (.int w_46), .val (.int ng), .val (.int dd), .val (.long yu), .second, .val (.int ce), .val (.int en), .val (.int (1 : Int32))] [(.int lo), (.int (17 : Int32)), (.ref b1), (.int (1 : Int32))]))
        refine own_st (fun _ k => XS.iload X72.here hx rfl (hb hby at_644) rfl k) ?_
        show own_Gl _ _ _ _ _ _ _ (T72.setTop (mkF m 646 #[.val (.long q1), .second, .val (.int p2), .val (.int lo), .val (.ref b1), .val (.ref b7), .val (.int w_46), .val (.int ng), .val (.int dd), .val (.long yu), .second, .val (.int ce), .val (.int en), .val (.int (1 : Int32))] [(.int en), (.int lo), (.int (17 : Int32)), (.ref b1), (.int (1 : Int32))]))
        refine own_st (fun _ k => XS.iload X72.here hx rfl (hb hby at_646) rfl k) ?_
        show own_Gl _ _ _ _ _ _ _ (T72.setTop (mkF m 648 #[.val (.long q1), .second, .val (.int p2), .val (.int lo), .val (.ref b1), .val (.ref b7), .val (.int w_46), .val (.int ng), .val (.int dd), .val (.long yu), .second, .val (.int ce), .val (.int en), .val (.int (1 : Int32))] [(.int ce), (.int en), (.int lo), (.int (17 : Int32)), (.ref b1), (.int (1 : Int32))]))
        refine own_st (fun _ k => XS.lload X72.here hx rfl (hb hby at_648) rfl k) ?_
        show own_Gl _ _ _ _ _ _ _ (T72.setTop (mkF m 650 #[.val (.long q1), .second, .val (.int p2), .val (.int lo), .val (.ref b1), .val (.ref b7), .val (.int w_46), .val (.int ng), .val (.int dd), .val (.long yu), .second, .val (.int ce), .val (.int en), .val (.int (1 : Int32))] [(.long yu), (.int ce), (.int en), (.int lo), (.int (17 : Int32)), (.ref b1), (.int (1 : Int32))]))
        refine own_st (fun _ k => XS.iload X72.here hx rfl (hb hby at_650) rfl k) ?_
        show own_Gl _ _ _ _ _ _ _ (T72.setTop (mkF m 652 #[.val (.long q1), .second, .val (.int p2), .val (.int lo), .val (.ref b1), .val (.ref b7), .val (.int w_46), .val (.int ng), .val (.int dd), .val (.long yu), .second, .val (.int ce), .val (.int en), .val (.int (1 : Int32))] [(.int dd), (.long yu), (.int ce), (.int en), (.int lo), (.int (17 : Int32)), (.ref b1), (.int (1 : Int32))]))
        refine own_st (fun _ k => XS.aload X72.here hx rfl (hb hby at_652) rfl rfl k) ?_
        show own_Gl _ _ _ _ _ _ _ (T72.setTop (mkF m 654 #[.val (.long q1), .second, .val (.int p2), .val (.int lo), .val (.ref b1), .val (.ref b7), .val (.int w_46), .val (.int ng), .val (.int dd), .val (.long yu), .second, .val (.int ce), .val (.int en), .val (.int (1 : Int32))] [(.ref b7), (.int dd), (.long yu), (.int ce), (.int en), (.int lo), (.int (17 : Int32)), (.ref b1), (.int (1 : Int32))]))
        obtain ⟨_, _, ⟨T73, L73, k73, n73⟩, -, X73, ⟨Lc73, hQ73, l73, y73, z73⟩, st73⟩ := Jvm.LawKit.callS X72 hx (y := (⟨"org/benli/core/MoneyToCharsPinLaw", "cell", "([CIIIIJI[J)Z"⟩ : MethodName)) hown (mvT hZ (hw _ (List.mem_of_getElem? (i := 37) rfl))) (mvT hZ (hw _ (List.mem_of_getElem? (i := 38) rfl))) (mvT hZ (hw _ (List.mem_of_getElem? (i := 39) rfl))) (mvT hZ (hw _ (List.mem_of_getElem? (i := 40) rfl))) (by decide) (backOf (W := 1) (own_rcell l Z a0 hw [] b1 (17 : Int32) lo en ce yu dd b7 k1 k7 g_46 Y C dn_46 N la 17 hh46 n0 Zs52 P46_0 f59 ⟨by decide, by decide⟩ hla.1 hen hNb hcc hy ⟨hdd, hd2⟩ hgv) hZ (hw _ (List.mem_of_getElem? (i := 40) rfl)) (hw _ (List.mem_of_getElem? (i := 39) rfl)) (by decide) (by decide)) (g := (mkF m 654 #[.val (.long q1), .second, .val (.int p2), .val (.int lo), .val (.ref b1), .val (.ref b7), .val (.int w_46), .val (.int ng), .val (.int dd), .val (.long yu), .second, .val (.int ce), .val (.int en), .val (.int (1 : Int32))] [(.ref b7), (.int dd), (.long yu), (.int ce), (.int en), (.int lo), (.int (17 : Int32)), (.ref b1), (.int (1 : Int32))])) rfl (by rw [hml]; rfl) (argsL := [(.ref b1), (.int (17 : Int32)), (.int lo), (.int en), (.int ce), (.long yu), (.int dd), (.ref b7)]) (rest := [(.int (1 : Int32))]) (lenOf own_pd785152518 rfl) rfl (by show 2 * 0 + _ ≤ _; exact Nat.le_of_eq rfl) (hb hby at_654) (fun _ _ => ⟨rfl, e72, (by decide : 2 + 0 ≤ room_1.cells), (by decide : 44 + 0 ≤ room_1.slots)⟩)
        dsimp only [Pt.U, Pt.locs, Pt.cells, Pt.slots] at X73 l73 y73 z73 st73 hQ73
        subst l73 y73 z73
        obtain ⟨hh73, eh073⟩ : ∃ z, T73.heap = z := ⟨_, rfl⟩
        rw [eh073] at hQ73
        obtain ⟨rfl, Nq73, eh73⟩ := hQ73
        have N73 := Fr.app N72 Nq73
        refine own_st st73 ?_
        have e73 : T73.heap = hh46 := eh073.trans eh73
        show own_Gl _ _ _ _ _ _ _ (T73.setTop (mkF m 657 #[.val (.long q1), .second, .val (.int p2), .val (.int lo), .val (.ref b1), .val (.ref b7), .val (.int w_46), .val (.int ng), .val (.int dd), .val (.long yu), .second, .val (.int ce), .val (.int en), .val (.int (1 : Int32))] [(.int (1 : Int32)), (.int (1 : Int32))]))
        refine own_st (fun _ k => XS.iand X73.here hx rfl (hb hby at_657) rfl k) ?_
        show own_Gl _ _ _ _ _ _ _ (T73.setTop (mkF m 658 #[.val (.long q1), .second, .val (.int p2), .val (.int lo), .val (.ref b1), .val (.ref b7), .val (.int w_46), .val (.int ng), .val (.int dd), .val (.long yu), .second, .val (.int ce), .val (.int en), .val (.int (1 : Int32))] [(.int (1 : Int32))]))
        refine own_st (fun _ k => XS.istore X73.here hx rfl (hb hby at_658) rfl (l' := #[.val (.long q1), .second, .val (.int p2), .val (.int lo), .val (.ref b1), .val (.ref b7), .val (.int w_46), .val (.int ng), .val (.int dd), .val (.long yu), .second, .val (.int ce), .val (.int en), .val (.int (1 : Int32))]) rfl k) ?_
        show own_Gl _ _ _ _ _ _ _ (T73.setTop (mkF m 660 #[.val (.long q1), .second, .val (.int p2), .val (.int lo), .val (.ref b1), .val (.ref b7), .val (.int w_46), .val (.int ng), .val (.int dd), .val (.long yu), .second, .val (.int ce), .val (.int en), .val (.int (1 : Int32))] []))
        refine own_st (fun _ k => XS.iload X73.here hx rfl (hb hby at_660) rfl k) ?_
        show own_Gl _ _ _ _ _ _ _ (T73.setTop (mkF m 662 #[.val (.long q1), .second, .val (.int p2), .val (.int lo), .val (.ref b1), .val (.ref b7), .val (.int w_46), .val (.int ng), .val (.int dd), .val (.long yu), .second, .val (.int ce), .val (.int en), .val (.int (1 : Int32))] [(.int (1 : Int32))]))
        refine own_st (fun _ k => XS.aload X73.here hx rfl (hb hby at_662) rfl rfl k) ?_
        show own_Gl _ _ _ _ _ _ _ (T73.setTop (mkF m 664 #[.val (.long q1), .second, .val (.int p2), .val (.int lo), .val (.ref b1), .val (.ref b7), .val (.int w_46), .val (.int ng), .val (.int dd), .val (.long yu), .second, .val (.int ce), .val (.int en), .val (.int (1 : Int32))] [(.ref b1), (.int (1 : Int32))]))
        refine own_st (fun _ k => XS.bipush X73.here hx rfl (hb hby at_664) k) ?_
        show own_Gl _ _ _ _ _ _ _ (T73.setTop (mkF m 666 #[.val (.long q1), .second, .val (.int p2), .val (.int lo), .val (.ref b1), .val (.ref b7), .val (.int w_46), .val (.int ng), .val (.int dd), .val (.long yu), .second, .val (.int ce), .val (.int en), .val (.int (1 : Int32))] [(.int (18 : Int32)), (.ref b1), (.int (1 : Int32))]))
        refine own_st (fun _ k => XS.iloadN X73.here hx rfl (hb hby at_666) rfl k) ?_
        show own_Gl _ _ _ _ _ _ _ (T73.setTop (mkF m 667 #[.val (.long q1), .second, .val (.int p2), .val (.int lo), .val (.ref b1), .val (.ref b7), .val (.int w_46), .val (.int ng), .val (.int dd), .val (.long yu), .second, .val (.int ce), .val (.int en), .val (.int (1 : Int32))] [(.int lo), (.int (18 : Int32)), (.ref b1), (.int (1 : Int32))]))
        refine own_st (fun _ k => XS.iload X73.here hx rfl (hb hby at_667) rfl k) ?_
        show own_Gl _ _ _ _ _ _ _ (T73.setTop (mkF m 669 #[.val (.long q1), .second, .val (.int p2), .val (.int lo), .val (.ref b1), .val (.ref b7), .val (.int w_46), .val (.int ng), .val (.int dd), .val (.long yu), .second, .val (.int ce), .val (.int en), .val (.int (1 : Int32))] [(.int en), (.int lo), (.int (18 : Int32)), (.ref b1), (.int (1 : Int32))]))
        refine own_st (fun _ k => XS.iload X73.here hx rfl (hb hby at_669) rfl k) ?_
        show own_Gl _ _ _ _ _ _ _ (T73.setTop (mkF m 671 #[.val (.long q1), .second, .val (.int p2), .val (.int lo), .val (.ref b1), .val (.ref b7), .val (.int w_46), .val (.int ng), .val (.int dd), .val (.long yu), .second, .val (.int ce), .val (.int en), .val (.int (1 : Int32))] [(.int ce), (.int en), (.int lo), (.int (18 : Int32)), (.ref b1), (.int (1 : Int32))]))
        refine own_st (fun _ k => XS.lload X73.here hx rfl (hb hby at_671) rfl k) ?_
        show own_Gl _ _ _ _ _ _ _ (T73.setTop (mkF m 673 #[.val (.long q1), .second, .val (.int p2), .val (.int lo), .val (.ref b1), .val (.ref b7), .val (.int w_46), .val (.int ng), .val (.int dd), .val (.long yu), .second, .val (.int ce), .val (.int en), .val (.int (1 : Int32))] [(.long yu), (.int ce), (.int en), (.int lo), (.int (18 : Int32)), (.ref b1), (.int (1 : Int32))]))
        refine own_st (fun _ k => XS.iload X73.here hx rfl (hb hby at_673) rfl k) ?_
        show own_Gl _ _ _ _ _ _ _ (T73.setTop (mkF m 675 #[.val (.long q1), .second, .val (.int p2), .val (.int lo), .val (.ref b1), .val (.ref b7), .val (.int w_46), .val (.int ng), .val (.int dd), .val (.long yu), .second, .val (.int ce), .val (.int en), .val (.int (1 : Int32))] [(.int dd), (.long yu), (.int ce), (.int en), (.int lo), (.int (18 : Int32)), (.ref b1), (.int (1 : Int32))]))
        refine own_st (fun _ k => XS.aload X73.here hx rfl (hb hby at_675) rfl rfl k) ?_
        show own_Gl _ _ _ _ _ _ _ (T73.setTop (mkF m 677 #[.val (.long q1), .second, .val (.int p2), .val (.int lo), .val (.ref b1), .val (.ref b7), .val (.int w_46), .val (.int ng), .val (.int dd), .val (.long yu), .second, .val (.int ce), .val (.int en), .val (.int (1 : Int32))] [(.ref b7), (.int dd), (.long yu), (.int ce), (.int en), (.int lo), (.int (18 : Int32)), (.ref b1), (.int (1 : Int32))]))
        obtain ⟨_, _, ⟨T74, L74, k74, n74⟩, -, X74, ⟨Lc74, hQ74, l74, y74, z74⟩, st74⟩ := Jvm.LawKit.callS X73 hx (y := (⟨"org/benli/core/MoneyToCharsPinLaw", "cell", "([CIIIIJI[J)Z"⟩ : MethodName)) hown (mvT hZ (hw _ (List.mem_of_getElem? (i := 37) rfl))) (mvT hZ (hw _ (List.mem_of_getElem? (i := 38) rfl))) (mvT hZ (hw _ (List.mem_of_getElem? (i := 39) rfl))) (mvT hZ (hw _ (List.mem_of_getElem? (i := 40) rfl))) (by decide) (backOf (W := 1) (own_rcell l Z a0 hw [] b1 (18 : Int32) lo en ce yu dd b7 k1 k7 g_46 Y C dn_46 N la 18 hh46 n0 Zs52 P46_0 f59 ⟨by decide, by decide⟩ hla.1 hen hNb hcc hy ⟨hdd, hd2⟩ hgv) hZ (hw _ (List.mem_of_getElem? (i := 40) rfl)) (hw _ (List.mem_of_getElem? (i := 39) rfl)) (by decide) (by decide)) (g := (mkF m 677 #[.val (.long q1), .second, .val (.int p2), .val (.int lo), .val (.ref b1), .val (.ref b7), .val (.int w_46), .val (.int ng), .val (.int dd), .val (.long yu), .second, .val (.int ce), .val (.int en), .val (.int (1 : Int32))] [(.ref b7), (.int dd), (.long yu), (.int ce), (.int en), (.int lo), (.int (18 : Int32)), (.ref b1), (.int (1 : Int32))])) rfl (by rw [hml]; rfl) (argsL := [(.ref b1), (.int (18 : Int32)), (.int lo), (.int en), (.int ce), (.long yu), (.int dd), (.ref b7)]) (rest := [(.int (1 : Int32))]) (lenOf own_pd785152518 rfl) rfl (by show 2 * 0 + _ ≤ _; exact Nat.le_of_eq rfl) (hb hby at_677) (fun _ _ => ⟨rfl, e73, (by decide : 2 + 0 ≤ room_1.cells), (by decide : 44 + 0 ≤ room_1.slots)⟩)
        dsimp only [Pt.U, Pt.locs, Pt.cells, Pt.slots] at X74 l74 y74 z74 st74 hQ74
        subst l74 y74 z74
        obtain ⟨hh74, eh074⟩ : ∃ z, T74.heap = z := ⟨_, rfl⟩
        rw [eh074] at hQ74
        obtain ⟨rfl, Nq74, eh74⟩ := hQ74
        have N74 := Fr.app N73 Nq74
        refine own_st st74 ?_
        have e74 : T74.heap = hh46 := eh074.trans eh74
        show own_Gl _ _ _ _ _ _ _ (T74.setTop (mkF m 680 #[.val (.long q1), .second, .val (.int p2), .val (.int lo), .val (.ref b1), .val (.ref b7), .val (.int w_46), .val (.int ng), .val (.int dd), .val (.long yu), .second, .val (.int ce), .val (.int en), .val (.int (1 : Int32))] [(.int (1 : Int32)), (.int (1 : Int32))]))
        refine own_st (fun _ k => XS.iand X74.here hx rfl (hb hby at_680) rfl k) ?_
        show own_Gl _ _ _ _ _ _ _ (T74.setTop (mkF m 681 #[.val (.long q1), .second, .val (.int p2), .val (.int lo), .val (.ref b1), .val (.ref b7), .val (.int w_46), .val (.int ng), .val (.int dd), .val (.long yu), .second, .val (.int ce), .val (.int en), .val (.int (1 : Int32))] [(.int (1 : Int32))]))
        refine own_st (fun _ k => XS.istore X74.here hx rfl (hb hby at_681) rfl (l' := #[.val (.long q1), .second, .val (.int p2), .val (.int lo), .val (.ref b1), .val (.ref b7), .val (.int w_46), .val (.int ng), .val (.int dd), .val (.long yu), .second, .val (.int ce), .val (.int en), .val (.int (1 : Int32))]) rfl k) ?_
        show own_Gl _ _ _ _ _ _ _ (T74.setTop (mkF m 683 #[.val (.long q1), .second, .val (.int p2), .val (.int lo), .val (.ref b1), .val (.ref b7), .val (.int w_46), .val (.int ng), .val (.int dd), .val (.long yu), .second, .val (.int ce), .val (.int en), .val (.int (1 : Int32))] []))
        refine own_st (fun _ k => XS.iload X74.here hx rfl (hb hby at_683) rfl k) ?_
        show own_Gl _ _ _ _ _ _ _ (T74.setTop (mkF m 685 #[.val (.long q1), .second, .val (.int p2), .val (.int lo), .val (.ref b1), .val (.ref b7), .val (.int w_46), .val (.int ng), .val (.int dd), .val (.long yu), .second, .val (.int ce), .val (.int en), .val (.int (1 : Int32))] [(.int (1 : Int32))]))
        refine own_st (fun _ k => XS.aload X74.here hx rfl (hb hby at_685) rfl rfl k) ?_
        show own_Gl _ _ _ _ _ _ _ (T74.setTop (mkF m 687 #[.val (.long q1), .second, .val (.int p2), .val (.int lo), .val (.ref b1), .val (.ref b7), .val (.int w_46), .val (.int ng), .val (.int dd), .val (.long yu), .second, .val (.int ce), .val (.int en), .val (.int (1 : Int32))] [(.ref b1), (.int (1 : Int32))]))
        refine own_st (fun _ k => XS.bipush X74.here hx rfl (hb hby at_687) k) ?_
        show own_Gl _ _ _ _ _ _ _ (T74.setTop (mkF m 689 #[.val (.long q1), .second, .val (.int p2), .val (.int lo), .val (.ref b1), .val (.ref b7), .val (.int w_46), .val (.int ng), .val (.int dd), .val (.long yu), .second, .val (.int ce), .val (.int en), .val (.int (1 : Int32))] [(.int (19 : Int32)), (.ref b1), (.int (1 : Int32))]))
        refine own_st (fun _ k => XS.iloadN X74.here hx rfl (hb hby at_689) rfl k) ?_
        show own_Gl _ _ _ _ _ _ _ (T74.setTop (mkF m 690 #[.val (.long q1), .second, .val (.int p2), .val (.int lo), .val (.ref b1), .val (.ref b7), .val (.int w_46), .val (.int ng), .val (.int dd), .val (.long yu), .second, .val (.int ce), .val (.int en), .val (.int (1 : Int32))] [(.int lo), (.int (19 : Int32)), (.ref b1), (.int (1 : Int32))]))
        refine own_st (fun _ k => XS.iload X74.here hx rfl (hb hby at_690) rfl k) ?_
        show own_Gl _ _ _ _ _ _ _ (T74.setTop (mkF m 692 #[.val (.long q1), .second, .val (.int p2), .val (.int lo), .val (.ref b1), .val (.ref b7), .val (.int w_46), .val (.int ng), .val (.int dd), .val (.long yu), .second, .val (.int ce), .val (.int en), .val (.int (1 : Int32))] [(.int en), (.int lo), (.int (19 : Int32)), (.ref b1), (.int (1 : Int32))]))
        refine own_st (fun _ k => XS.iload X74.here hx rfl (hb hby at_692) rfl k) ?_
        show own_Gl _ _ _ _ _ _ _ (T74.setTop (mkF m 694 #[.val (.long q1), .second, .val (.int p2), .val (.int lo), .val (.ref b1), .val (.ref b7), .val (.int w_46), .val (.int ng), .val (.int dd), .val (.long yu), .second, .val (.int ce), .val (.int en), .val (.int (1 : Int32))] [(.int ce), (.int en), (.int lo), (.int (19 : Int32)), (.ref b1), (.int (1 : Int32))]))
        refine own_st (fun _ k => XS.lload X74.here hx rfl (hb hby at_694) rfl k) ?_
        show own_Gl _ _ _ _ _ _ _ (T74.setTop (mkF m 696 #[.val (.long q1), .second, .val (.int p2), .val (.int lo), .val (.ref b1), .val (.ref b7), .val (.int w_46), .val (.int ng), .val (.int dd), .val (.long yu), .second, .val (.int ce), .val (.int en), .val (.int (1 : Int32))] [(.long yu), (.int ce), (.int en), (.int lo), (.int (19 : Int32)), (.ref b1), (.int (1 : Int32))]))
        refine own_st (fun _ k => XS.iload X74.here hx rfl (hb hby at_696) rfl k) ?_
        show own_Gl _ _ _ _ _ _ _ (T74.setTop (mkF m 698 #[.val (.long q1), .second, .val (.int p2), .val (.int lo), .val (.ref b1), .val (.ref b7), .val (.int w_46), .val (.int ng), .val (.int dd), .val (.long yu), .second, .val (.int ce), .val (.int en), .val (.int (1 : Int32))] [(.int dd), (.long yu), (.int ce), (.int en), (.int lo), (.int (19 : Int32)), (.ref b1), (.int (1 : Int32))]))
        refine own_st (fun _ k => XS.aload X74.here hx rfl (hb hby at_698) rfl rfl k) ?_
        show own_Gl _ _ _ _ _ _ _ (T74.setTop (mkF m 700 #[.val (.long q1), .second, .val (.int p2), .val (.int lo), .val (.ref b1), .val (.ref b7), .val (.int w_46), .val (.int ng), .val (.int dd), .val (.long yu), .second, .val (.int ce), .val (.int en), .val (.int (1 : Int32))] [(.ref b7), (.int dd), (.long yu), (.int ce), (.int en), (.int lo), (.int (19 : Int32)), (.ref b1), (.int (1 : Int32))]))
        obtain ⟨_, _, ⟨T75, L75, k75, n75⟩, -, X75, ⟨Lc75, hQ75, l75, y75, z75⟩, st75⟩ := Jvm.LawKit.callS X74 hx (y := (⟨"org/benli/core/MoneyToCharsPinLaw", "cell", "([CIIIIJI[J)Z"⟩ : MethodName)) hown (mvT hZ (hw _ (List.mem_of_getElem? (i := 37) rfl))) (mvT hZ (hw _ (List.mem_of_getElem? (i := 38) rfl))) (mvT hZ (hw _ (List.mem_of_getElem? (i := 39) rfl))) (mvT hZ (hw _ (List.mem_of_getElem? (i := 40) rfl))) (by decide) (backOf (W := 1) (own_rcell l Z a0 hw [] b1 (19 : Int32) lo en ce yu dd b7 k1 k7 g_46 Y C dn_46 N la 19 hh46 n0 Zs52 P46_0 f59 ⟨by decide, by decide⟩ hla.1 hen hNb hcc hy ⟨hdd, hd2⟩ hgv) hZ (hw _ (List.mem_of_getElem? (i := 40) rfl)) (hw _ (List.mem_of_getElem? (i := 39) rfl)) (by decide) (by decide)) (g := (mkF m 700 #[.val (.long q1), .second, .val (.int p2), .val (.int lo), .val (.ref b1), .val (.ref b7), .val (.int w_46), .val (.int ng), .val (.int dd), .val (.long yu), .second, .val (.int ce), .val (.int en), .val (.int (1 : Int32))] [(.ref b7), (.int dd), (.long yu), (.int ce), (.int en), (.int lo), (.int (19 : Int32)), (.ref b1), (.int (1 : Int32))])) rfl (by rw [hml]; rfl) (argsL := [(.ref b1), (.int (19 : Int32)), (.int lo), (.int en), (.int ce), (.long yu), (.int dd), (.ref b7)]) (rest := [(.int (1 : Int32))]) (lenOf own_pd785152518 rfl) rfl (by show 2 * 0 + _ ≤ _; exact Nat.le_of_eq rfl) (hb hby at_700) (fun _ _ => ⟨rfl, e74, (by decide : 2 + 0 ≤ room_1.cells), (by decide : 44 + 0 ≤ room_1.slots)⟩)
        dsimp only [Pt.U, Pt.locs, Pt.cells, Pt.slots] at X75 l75 y75 z75 st75 hQ75
        subst l75 y75 z75
        obtain ⟨hh75, eh075⟩ : ∃ z, T75.heap = z := ⟨_, rfl⟩
        rw [eh075] at hQ75
        obtain ⟨rfl, Nq75, eh75⟩ := hQ75
        have N75 := Fr.app N74 Nq75
        refine own_st st75 ?_
        have e75 : T75.heap = hh46 := eh075.trans eh75
        show own_Gl _ _ _ _ _ _ _ (T75.setTop (mkF m 703 #[.val (.long q1), .second, .val (.int p2), .val (.int lo), .val (.ref b1), .val (.ref b7), .val (.int w_46), .val (.int ng), .val (.int dd), .val (.long yu), .second, .val (.int ce), .val (.int en), .val (.int (1 : Int32))] [(.int (1 : Int32)), (.int (1 : Int32))]))
        refine own_st (fun _ k => XS.iand X75.here hx rfl (hb hby at_703) rfl k) ?_
        show own_Gl _ _ _ _ _ _ _ (T75.setTop (mkF m 704 #[.val (.long q1), .second, .val (.int p2), .val (.int lo), .val (.ref b1), .val (.ref b7), .val (.int w_46), .val (.int ng), .val (.int dd), .val (.long yu), .second, .val (.int ce), .val (.int en), .val (.int (1 : Int32))] [(.int (1 : Int32))]))
        refine own_st (fun _ k => XS.istore X75.here hx rfl (hb hby at_704) rfl (l' := #[.val (.long q1), .second, .val (.int p2), .val (.int lo), .val (.ref b1), .val (.ref b7), .val (.int w_46), .val (.int ng), .val (.int dd), .val (.long yu), .second, .val (.int ce), .val (.int en), .val (.int (1 : Int32))]) rfl k) ?_
        show own_Gl _ _ _ _ _ _ _ (T75.setTop (mkF m 706 #[.val (.long q1), .second, .val (.int p2), .val (.int lo), .val (.ref b1), .val (.ref b7), .val (.int w_46), .val (.int ng), .val (.int dd), .val (.long yu), .second, .val (.int ce), .val (.int en), .val (.int (1 : Int32))] []))
        show own_Gl _ _ _ _ _ _ _ (T75.setTop (mkF m 706 #[.val (.long q1), .second, .val (.int p2), .val (.int lo), .val (.ref b1), .val (.ref b7), .val (.int w_46), .val (.int ng), .val (.int dd), .val (.long yu), .second, .val (.int ce), .val (.int en), .val (.int (1 : Int32))] []))
        exact J706_68 T75 _ N75 X75 e75
      have J568_76 : ∀ (T76 : State) (LL76 : List Loc) (N76 : Fr n0 LL76) (X76 : Stand p l e room_1 s m #[(.long q1), (.int p2)] below meth c T76 LL76 2 44) (e76 : T76.heap = hh46), own_Gl p e below s (own_Q_own_law Z q1 p2 oa ta ko kt h0 n0) room_1.cells room_1.slots (T76.setTop (mkF m 568 #[.val (.long q1), .second, .val (.int p2), .val (.int lo), .val (.ref b1), .val (.ref b7), .val (.int w_46), .val (.int ng), .val (.int dd), .val (.long yu), .second, .val (.int ce), .val (.int en), .val (.int (1 : Int32))] [])) := by
        intro T76 LL76 N76 X76 e76
        show own_Gl _ _ _ _ _ _ _ (T76.setTop (mkF m 568 #[.val (.long q1), .second, .val (.int p2), .val (.int lo), .val (.ref b1), .val (.ref b7), .val (.int w_46), .val (.int ng), .val (.int dd), .val (.long yu), .second, .val (.int ce), .val (.int en), .val (.int (1 : Int32))] []))
        refine own_st (fun _ k => XS.iload X76.here hx rfl (hb hby at_568) rfl k) ?_
        show own_Gl _ _ _ _ _ _ _ (T76.setTop (mkF m 570 #[.val (.long q1), .second, .val (.int p2), .val (.int lo), .val (.ref b1), .val (.ref b7), .val (.int w_46), .val (.int ng), .val (.int dd), .val (.long yu), .second, .val (.int ce), .val (.int en), .val (.int (1 : Int32))] [(.int (1 : Int32))]))
        refine own_st (fun _ k => XS.aload X76.here hx rfl (hb hby at_570) rfl rfl k) ?_
        show own_Gl _ _ _ _ _ _ _ (T76.setTop (mkF m 572 #[.val (.long q1), .second, .val (.int p2), .val (.int lo), .val (.ref b1), .val (.ref b7), .val (.int w_46), .val (.int ng), .val (.int dd), .val (.long yu), .second, .val (.int ce), .val (.int en), .val (.int (1 : Int32))] [(.ref b1), (.int (1 : Int32))]))
        refine own_st (fun _ k => XS.bipush X76.here hx rfl (hb hby at_572) k) ?_
        show own_Gl _ _ _ _ _ _ _ (T76.setTop (mkF m 574 #[.val (.long q1), .second, .val (.int p2), .val (.int lo), .val (.ref b1), .val (.ref b7), .val (.int w_46), .val (.int ng), .val (.int dd), .val (.long yu), .second, .val (.int ce), .val (.int en), .val (.int (1 : Int32))] [(.int (14 : Int32)), (.ref b1), (.int (1 : Int32))]))
        refine own_st (fun _ k => XS.iloadN X76.here hx rfl (hb hby at_574) rfl k) ?_
        show own_Gl _ _ _ _ _ _ _ (T76.setTop (mkF m 575 #[.val (.long q1), .second, .val (.int p2), .val (.int lo), .val (.ref b1), .val (.ref b7), .val (.int w_46), .val (.int ng), .val (.int dd), .val (.long yu), .second, .val (.int ce), .val (.int en), .val (.int (1 : Int32))] [(.int lo), (.int (14 : Int32)), (.ref b1), (.int (1 : Int32))]))
        refine own_st (fun _ k => XS.iload X76.here hx rfl (hb hby at_575) rfl k) ?_
        show own_Gl _ _ _ _ _ _ _ (T76.setTop (mkF m 577 #[.val (.long q1), .second, .val (.int p2), .val (.int lo), .val (.ref b1), .val (.ref b7), .val (.int w_46), .val (.int ng), .val (.int dd), .val (.long yu), .second, .val (.int ce), .val (.int en), .val (.int (1 : Int32))] [(.int en), (.int lo), (.int (14 : Int32)), (.ref b1), (.int (1 : Int32))]))
        refine own_st (fun _ k => XS.iload X76.here hx rfl (hb hby at_577) rfl k) ?_
        show own_Gl _ _ _ _ _ _ _ (T76.setTop (mkF m 579 #[.val (.long q1), .second, .val (.int p2), .val (.int lo), .val (.ref b1), .val (.ref b7), .val (.int w_46), .val (.int ng), .val (.int dd), .val (.long yu), .second, .val (.int ce), .val (.int en), .val (.int (1 : Int32))] [(.int ce), (.int en), (.int lo), (.int (14 : Int32)), (.ref b1), (.int (1 : Int32))]))
        refine own_st (fun _ k => XS.lload X76.here hx rfl (hb hby at_579) rfl k) ?_
        show own_Gl _ _ _ _ _ _ _ (T76.setTop (mkF m 581 #[.val (.long q1), .second, .val (.int p2), .val (.int lo), .val (.ref b1), .val (.ref b7), .val (.int w_46), .val (.int ng), .val (.int dd), .val (.long yu), .second, .val (.int ce), .val (.int en), .val (.int (1 : Int32))] [(.long yu), (.int ce), (.int en), (.int lo), (.int (14 : Int32)), (.ref b1), (.int (1 : Int32))]))
        refine own_st (fun _ k => XS.iload X76.here hx rfl (hb hby at_581) rfl k) ?_
        show own_Gl _ _ _ _ _ _ _ (T76.setTop (mkF m 583 #[.val (.long q1), .second, .val (.int p2), .val (.int lo), .val (.ref b1), .val (.ref b7), .val (.int w_46), .val (.int ng), .val (.int dd), .val (.long yu), .second, .val (.int ce), .val (.int en), .val (.int (1 : Int32))] [(.int dd), (.long yu), (.int ce), (.int en), (.int lo), (.int (14 : Int32)), (.ref b1), (.int (1 : Int32))]))
        refine own_st (fun _ k => XS.aload X76.here hx rfl (hb hby at_583) rfl rfl k) ?_
        show own_Gl _ _ _ _ _ _ _ (T76.setTop (mkF m 585 #[.val (.long q1), .second, .val (.int p2), .val (.int lo), .val (.ref b1), .val (.ref b7), .val (.int w_46), .val (.int ng), .val (.int dd), .val (.long yu), .second, .val (.int ce), .val (.int en), .val (.int (1 : Int32))] [(.ref b7), (.int dd), (.long yu), (.int ce), (.int en), (.int lo), (.int (14 : Int32)), (.ref b1), (.int (1 : Int32))]))
        obtain ⟨_, _, ⟨T77, L77, k77, n77⟩, -, X77, ⟨Lc77, hQ77, l77, y77, z77⟩, st77⟩ := Jvm.LawKit.callS X76 hx (y := (⟨"org/benli/core/MoneyToCharsPinLaw", "cell", "([CIIIIJI[J)Z"⟩ : MethodName)) hown (mvT hZ (hw _ (List.mem_of_getElem? (i := 37) rfl))) (mvT hZ (hw _ (List.mem_of_getElem? (i := 38) rfl))) (mvT hZ (hw _ (List.mem_of_getElem? (i := 39) rfl))) (mvT hZ (hw _ (List.mem_of_getElem? (i := 40) rfl))) (by decide) (backOf (W := 1) (own_rcell l Z a0 hw [] b1 (14 : Int32) lo en ce yu dd b7 k1 k7 g_46 Y C dn_46 N la 14 hh46 n0 Zs52 P46_0 f59 ⟨by decide, by decide⟩ hla.1 hen hNb hcc hy ⟨hdd, hd2⟩ hgv) hZ (hw _ (List.mem_of_getElem? (i := 40) rfl)) (hw _ (List.mem_of_getElem? (i := 39) rfl)) (by decide) (by decide)) (g := (mkF m 585 #[.val (.long q1), .second, .val (.int p2), .val (.int lo), .val (.ref b1), .val (.ref b7), .val (.int w_46), .val (.int ng), .val (.int dd), .val (.long yu), .second, .val (.int ce), .val (.int en), .val (.int (1 : Int32))] [(.ref b7), (.int dd), (.long yu), (.int ce), (.int en), (.int lo), (.int (14 : Int32)), (.ref b1), (.int (1 : Int32))])) rfl (by rw [hml]; rfl) (argsL := [(.ref b1), (.int (14 : Int32)), (.int lo), (.int en), (.int ce), (.long yu), (.int dd), (.ref b7)]) (rest := [(.int (1 : Int32))]) (lenOf own_pd785152518 rfl) rfl (by show 2 * 0 + _ ≤ _; exact Nat.le_of_eq rfl) (hb hby at_585) (fun _ _ => ⟨rfl, e76, (by decide : 2 + 0 ≤ room_1.cells), (by decide : 44 + 0 ≤ room_1.slots)⟩)
        dsimp only [Pt.U, Pt.locs, Pt.cells, Pt.slots] at X77 l77 y77 z77 st77 hQ77
        subst l77 y77 z77
        obtain ⟨hh77, eh077⟩ : ∃ z, T77.heap = z := ⟨_, rfl⟩
        rw [eh077] at hQ77
        obtain ⟨rfl, Nq77, eh77⟩ := hQ77
        have N77 := Fr.app N76 Nq77
        refine own_st st77 ?_
        have e77 : T77.heap = hh46 := eh077.trans eh77
        show own_Gl _ _ _ _ _ _ _ (T77.setTop (mkF m 588 #[.val (.long q1), .second, .val (.int p2), .val (.int lo), .val (.ref b1), .val (.ref b7), .val (.int w_46), .val (.int ng), .val (.int dd), .val (.long yu), .second, .val (.int ce), .val (.int en), .val (.int (1 : Int32))] [(.int (1 : Int32)), (.int (1 : Int32))]))
        refine own_st (fun _ k => XS.iand X77.here hx rfl (hb hby at_588) rfl k) ?_
        show own_Gl _ _ _ _ _ _ _ (T77.setTop (mkF m 589 #[.val (.long q1), .second, .val (.int p2), .val (.int lo), .val (.ref b1), .val (.ref b7), .val (.int w_46), .val (.int ng), .val (.int dd), .val (.long yu), .second, .val (.int ce), .val (.int en), .val (.int (1 : Int32))] [(.int (1 : Int32))]))
        refine own_st (fun _ k => XS.istore X77.here hx rfl (hb hby at_589) rfl (l' := #[.val (.long q1), .second, .val (.int p2), .val (.int lo), .val (.ref b1), .val (.ref b7), .val (.int w_46), .val (.int ng), .val (.int dd), .val (.long yu), .second, .val (.int ce), .val (.int en), .val (.int (1 : Int32))]) rfl k) ?_
        show own_Gl _ _ _ _ _ _ _ (T77.setTop (mkF m 591 #[.val (.long q1), .second, .val (.int p2), .val (.int lo), .val (.ref b1), .val (.ref b7), .val (.int w_46), .val (.int ng), .val (.int dd), .val (.long yu), .second, .val (.int ce), .val (.int en), .val (.int (1 : Int32))] []))
        refine own_st (fun _ k => XS.iload X77.here hx rfl (hb hby at_591) rfl k) ?_
        show own_Gl _ _ _ _ _ _ _ (T77.setTop (mkF m 593 #[.val (.long q1), .second, .val (.int p2), .val (.int lo), .val (.ref b1), .val (.ref b7), .val (.int w_46), .val (.int ng), .val (.int dd), .val (.long yu), .second, .val (.int ce), .val (.int en), .val (.int (1 : Int32))] [(.int (1 : Int32))]))
        refine own_st (fun _ k => XS.aload X77.here hx rfl (hb hby at_593) rfl rfl k) ?_
        show own_Gl _ _ _ _ _ _ _ (T77.setTop (mkF m 595 #[.val (.long q1), .second, .val (.int p2), .val (.int lo), .val (.ref b1), .val (.ref b7), .val (.int w_46), .val (.int ng), .val (.int dd), .val (.long yu), .second, .val (.int ce), .val (.int en), .val (.int (1 : Int32))] [(.ref b1), (.int (1 : Int32))]))
        refine own_st (fun _ k => XS.bipush X77.here hx rfl (hb hby at_595) k) ?_
        show own_Gl _ _ _ _ _ _ _ (T77.setTop (mkF m 597 #[.val (.long q1), .second, .val (.int p2), .val (.int lo), .val (.ref b1), .val (.ref b7), .val (.int w_46), .val (.int ng), .val (.int dd), .val (.long yu), .second, .val (.int ce), .val (.int en), .val (.int (1 : Int32))] [(.int (15 : Int32)), (.ref b1), (.int (1 : Int32))]))
        refine own_st (fun _ k => XS.iloadN X77.here hx rfl (hb hby at_597) rfl k) ?_
        show own_Gl _ _ _ _ _ _ _ (T77.setTop (mkF m 598 #[.val (.long q1), .second, .val (.int p2), .val (.int lo), .val (.ref b1), .val (.ref b7), .val (.int w_46), .val (.int ng), .val (.int dd), .val (.long yu), .second, .val (.int ce), .val (.int en), .val (.int (1 : Int32))] [(.int lo), (.int (15 : Int32)), (.ref b1), (.int (1 : Int32))]))
        refine own_st (fun _ k => XS.iload X77.here hx rfl (hb hby at_598) rfl k) ?_
        show own_Gl _ _ _ _ _ _ _ (T77.setTop (mkF m 600 #[.val (.long q1), .second, .val (.int p2), .val (.int lo), .val (.ref b1), .val (.ref b7), .val (.int w_46), .val (.int ng), .val (.int dd), .val (.long yu), .second, .val (.int ce), .val (.int en), .val (.int (1 : Int32))] [(.int en), (.int lo), (.int (15 : Int32)), (.ref b1), (.int (1 : Int32))]))
        refine own_st (fun _ k => XS.iload X77.here hx rfl (hb hby at_600) rfl k) ?_
        show own_Gl _ _ _ _ _ _ _ (T77.setTop (mkF m 602 #[.val (.long q1), .second, .val (.int p2), .val (.int lo), .val (.ref b1), .val (.ref b7), .val (.int w_46), .val (.int ng), .val (.int dd), .val (.long yu), .second, .val (.int ce), .val (.int en), .val (.int (1 : Int32))] [(.int ce), (.int en), (.int lo), (.int (15 : Int32)), (.ref b1), (.int (1 : Int32))]))
        refine own_st (fun _ k => XS.lload X77.here hx rfl (hb hby at_602) rfl k) ?_
        show own_Gl _ _ _ _ _ _ _ (T77.setTop (mkF m 604 #[.val (.long q1), .second, .val (.int p2), .val (.int lo), .val (.ref b1), .val (.ref b7), .val (.int w_46), .val (.int ng), .val (.int dd), .val (.long yu), .second, .val (.int ce), .val (.int en), .val (.int (1 : Int32))] [(.long yu), (.int ce), (.int en), (.int lo), (.int (15 : Int32)), (.ref b1), (.int (1 : Int32))]))
        refine own_st (fun _ k => XS.iload X77.here hx rfl (hb hby at_604) rfl k) ?_
        show own_Gl _ _ _ _ _ _ _ (T77.setTop (mkF m 606 #[.val (.long q1), .second, .val (.int p2), .val (.int lo), .val (.ref b1), .val (.ref b7), .val (.int w_46), .val (.int ng), .val (.int dd), .val (.long yu), .second, .val (.int ce), .val (.int en), .val (.int (1 : Int32))] [(.int dd), (.long yu), (.int ce), (.int en), (.int lo), (.int (15 : Int32)), (.ref b1), (.int (1 : Int32))]))
        refine own_st (fun _ k => XS.aload X77.here hx rfl (hb hby at_606) rfl rfl k) ?_
        show own_Gl _ _ _ _ _ _ _ (T77.setTop (mkF m 608 #[.val (.long q1), .second, .val (.int p2), .val (.int lo), .val (.ref b1), .val (.ref b7), .val (.int w_46), .val (.int ng), .val (.int dd), .val (.long yu), .second, .val (.int ce), .val (.int en), .val (.int (1 : Int32))] [(.ref b7), (.int dd), (.long yu), (.int ce), (.int en), (.int lo), (.int (15 : Int32)), (.ref b1), (.int (1 : Int32))]))
        obtain ⟨_, _, ⟨T78, L78, k78, n78⟩, -, X78, ⟨Lc78, hQ78, l78, y78, z78⟩, st78⟩ := Jvm.LawKit.callS X77 hx (y := (⟨"org/benli/core/MoneyToCharsPinLaw", "cell", "([CIIIIJI[J)Z"⟩ : MethodName)) hown (mvT hZ (hw _ (List.mem_of_getElem? (i := 37) rfl))) (mvT hZ (hw _ (List.mem_of_getElem? (i := 38) rfl))) (mvT hZ (hw _ (List.mem_of_getElem? (i := 39) rfl))) (mvT hZ (hw _ (List.mem_of_getElem? (i := 40) rfl))) (by decide) (backOf (W := 1) (own_rcell l Z a0 hw [] b1 (15 : Int32) lo en ce yu dd b7 k1 k7 g_46 Y C dn_46 N la 15 hh46 n0 Zs52 P46_0 f59 ⟨by decide, by decide⟩ hla.1 hen hNb hcc hy ⟨hdd, hd2⟩ hgv) hZ (hw _ (List.mem_of_getElem? (i := 40) rfl)) (hw _ (List.mem_of_getElem? (i := 39) rfl)) (by decide) (by decide)) (g := (mkF m 608 #[.val (.long q1), .second, .val (.int p2), .val (.int lo), .val (.ref b1), .val (.ref b7), .val (.int w_46), .val (.int ng), .val (.int dd), .val (.long yu), .second, .val (.int ce), .val (.int en), .val (.int (1 : Int32))] [(.ref b7), (.int dd), (.long yu), (.int ce), (.int en), (.int lo), (.int (15 : Int32)), (.ref b1), (.int (1 : Int32))])) rfl (by rw [hml]; rfl) (argsL := [(.ref b1), (.int (15 : Int32)), (.int lo), (.int en), (.int ce), (.long yu), (.int dd), (.ref b7)]) (rest := [(.int (1 : Int32))]) (lenOf own_pd785152518 rfl) rfl (by show 2 * 0 + _ ≤ _; exact Nat.le_of_eq rfl) (hb hby at_608) (fun _ _ => ⟨rfl, e77, (by decide : 2 + 0 ≤ room_1.cells), (by decide : 44 + 0 ≤ room_1.slots)⟩)
        dsimp only [Pt.U, Pt.locs, Pt.cells, Pt.slots] at X78 l78 y78 z78 st78 hQ78
        subst l78 y78 z78
        obtain ⟨hh78, eh078⟩ : ∃ z, T78.heap = z := ⟨_, rfl⟩
        rw [eh078] at hQ78
        obtain ⟨rfl, Nq78, eh78⟩ := hQ78
        have N78 := Fr.app N77 Nq78
        refine own_st st78 ?_
        have e78 : T78.heap = hh46 := eh078.trans eh78
        show own_Gl _ _ _ _ _ _ _ (T78.setTop (mkF m 611 #[.val (.long q1), .second, .val (.int p2), .val (.int lo), .val (.ref b1), .val (.ref b7), .val (.int w_46), .val (.int ng), .val (.int dd), .val (.long yu), .second, .val (.int ce), .val (.int en), .val (.int (1 : Int32))] [(.int (1 : Int32)), (.int (1 : Int32))]))
        refine own_st (fun _ k => XS.iand X78.here hx rfl (hb hby at_611) rfl k) ?_
        show own_Gl _ _ _ _ _ _ _ (T78.setTop (mkF m 612 #[.val (.long q1), .second, .val (.int p2), .val (.int lo), .val (.ref b1), .val (.ref b7), .val (.int w_46), .val (.int ng), .val (.int dd), .val (.long yu), .second, .val (.int ce), .val (.int en), .val (.int (1 : Int32))] [(.int (1 : Int32))]))
        refine own_st (fun _ k => XS.istore X78.here hx rfl (hb hby at_612) rfl (l' := #[.val (.long q1), .second, .val (.int p2), .val (.int lo), .val (.ref b1), .val (.ref b7), .val (.int w_46), .val (.int ng), .val (.int dd), .val (.long yu), .second, .val (.int ce), .val (.int en), .val (.int (1 : Int32))]) rfl k) ?_
        show own_Gl _ _ _ _ _ _ _ (T78.setTop (mkF m 614 #[.val (.long q1), .second, .val (.int p2), .val (.int lo), .val (.ref b1), .val (.ref b7), .val (.int w_46), .val (.int ng), .val (.int dd), .val (.long yu), .second, .val (.int ce), .val (.int en), .val (.int (1 : Int32))] []))
        refine own_st (fun _ k => XS.iload X78.here hx rfl (hb hby at_614) rfl k) ?_
        show own_Gl _ _ _ _ _ _ _ (T78.setTop (mkF m 616 #[.val (.long q1), .second, .val (.int p2), .val (.int lo), .val (.ref b1), .val (.ref b7), .val (.int w_46), .val (.int ng), .val (.int dd), .val (.long yu), .second, .val (.int ce), .val (.int en), .val (.int (1 : Int32))] [(.int (1 : Int32))]))
        refine own_st (fun _ k => XS.aload X78.here hx rfl (hb hby at_616) rfl rfl k) ?_
        show own_Gl _ _ _ _ _ _ _ (T78.setTop (mkF m 618 #[.val (.long q1), .second, .val (.int p2), .val (.int lo), .val (.ref b1), .val (.ref b7), .val (.int w_46), .val (.int ng), .val (.int dd), .val (.long yu), .second, .val (.int ce), .val (.int en), .val (.int (1 : Int32))] [(.ref b1), (.int (1 : Int32))]))
        refine own_st (fun _ k => XS.bipush X78.here hx rfl (hb hby at_618) k) ?_
        show own_Gl _ _ _ _ _ _ _ (T78.setTop (mkF m 620 #[.val (.long q1), .second, .val (.int p2), .val (.int lo), .val (.ref b1), .val (.ref b7), .val (.int w_46), .val (.int ng), .val (.int dd), .val (.long yu), .second, .val (.int ce), .val (.int en), .val (.int (1 : Int32))] [(.int (16 : Int32)), (.ref b1), (.int (1 : Int32))]))
        refine own_st (fun _ k => XS.iloadN X78.here hx rfl (hb hby at_620) rfl k) ?_
        show own_Gl _ _ _ _ _ _ _ (T78.setTop (mkF m 621 #[.val (.long q1), .second, .val (.int p2), .val (.int lo), .val (.ref b1), .val (.ref b7), .val (.int w_46), .val (.int ng), .val (.int dd), .val (.long yu), .second, .val (.int ce), .val (.int en), .val (.int (1 : Int32))] [(.int lo), (.int (16 : Int32)), (.ref b1), (.int (1 : Int32))]))
        refine own_st (fun _ k => XS.iload X78.here hx rfl (hb hby at_621) rfl k) ?_
        show own_Gl _ _ _ _ _ _ _ (T78.setTop (mkF m 623 #[.val (.long q1), .second, .val (.int p2), .val (.int lo), .val (.ref b1), .val (.ref b7), .val (.int w_46), .val (.int ng), .val (.int dd), .val (.long yu), .second, .val (.int ce), .val (.int en), .val (.int (1 : Int32))] [(.int en), (.int lo), (.int (16 : Int32)), (.ref b1), (.int (1 : Int32))]))
        refine own_st (fun _ k => XS.iload X78.here hx rfl (hb hby at_623) rfl k) ?_
        show own_Gl _ _ _ _ _ _ _ (T78.setTop (mkF m 625 #[.val (.long q1), .second, .val (.int p2), .val (.int lo), .val (.ref b1), .val (.ref b7), .val (.int w_46), .val (.int ng), .val (.int dd), .val (.long yu), .second, .val (.int ce), .val (.int en), .val (.int (1 : Int32))] [(.int ce), (.int en), (.int lo), (.int (16 : Int32)), (.ref b1), (.int (1 : Int32))]))
        refine own_st (fun _ k => XS.lload X78.here hx rfl (hb hby at_625) rfl k) ?_
        show own_Gl _ _ _ _ _ _ _ (T78.setTop (mkF m 627 #[.val (.long q1), .second, .val (.int p2), .val (.int lo), .val (.ref b1), .val (.ref b7), .val (.int w_46), .val (.int ng), .val (.int dd), .val (.long yu), .second, .val (.int ce), .val (.int en), .val (.int (1 : Int32))] [(.long yu), (.int ce), (.int en), (.int lo), (.int (16 : Int32)), (.ref b1), (.int (1 : Int32))]))
        refine own_st (fun _ k => XS.iload X78.here hx rfl (hb hby at_627) rfl k) ?_
        show own_Gl _ _ _ _ _ _ _ (T78.setTop (mkF m 629 #[.val (.long q1), .second, .val (.int p2), .val (.int lo), .val (.ref b1), .val (.ref b7), .val (.int w_46), .val (.int ng), .val (.int dd), .val (.long yu), .second, .val (.int ce), .val (.int en), .val (.int (1 : Int32))] [(.int dd), (.long yu), (.int ce), (.int en), (.int lo), (.int (16 : Int32)), (.ref b1), (.int (1 : Int32))]))
        refine own_st (fun _ k => XS.aload X78.here hx rfl (hb hby at_629) rfl rfl k) ?_
        show own_Gl _ _ _ _ _ _ _ (T78.setTop (mkF m 631 #[.val (.long q1), .second, .val (.int p2), .val (.int lo), .val (.ref b1), .val (.ref b7), .val (.int w_46), .val (.int ng), .val (.int dd), .val (.long yu), .second, .val (.int ce), .val (.int en), .val (.int (1 : Int32))] [(.ref b7), (.int dd), (.long yu), (.int ce), (.int en), (.int lo), (.int (16 : Int32)), (.ref b1), (.int (1 : Int32))]))
        obtain ⟨_, _, ⟨T79, L79, k79, n79⟩, -, X79, ⟨Lc79, hQ79, l79, y79, z79⟩, st79⟩ := Jvm.LawKit.callS X78 hx (y := (⟨"org/benli/core/MoneyToCharsPinLaw", "cell", "([CIIIIJI[J)Z"⟩ : MethodName)) hown (mvT hZ (hw _ (List.mem_of_getElem? (i := 37) rfl))) (mvT hZ (hw _ (List.mem_of_getElem? (i := 38) rfl))) (mvT hZ (hw _ (List.mem_of_getElem? (i := 39) rfl))) (mvT hZ (hw _ (List.mem_of_getElem? (i := 40) rfl))) (by decide) (backOf (W := 1) (own_rcell l Z a0 hw [] b1 (16 : Int32) lo en ce yu dd b7 k1 k7 g_46 Y C dn_46 N la 16 hh46 n0 Zs52 P46_0 f59 ⟨by decide, by decide⟩ hla.1 hen hNb hcc hy ⟨hdd, hd2⟩ hgv) hZ (hw _ (List.mem_of_getElem? (i := 40) rfl)) (hw _ (List.mem_of_getElem? (i := 39) rfl)) (by decide) (by decide)) (g := (mkF m 631 #[.val (.long q1), .second, .val (.int p2), .val (.int lo), .val (.ref b1), .val (.ref b7), .val (.int w_46), .val (.int ng), .val (.int dd), .val (.long yu), .second, .val (.int ce), .val (.int en), .val (.int (1 : Int32))] [(.ref b7), (.int dd), (.long yu), (.int ce), (.int en), (.int lo), (.int (16 : Int32)), (.ref b1), (.int (1 : Int32))])) rfl (by rw [hml]; rfl) (argsL := [(.ref b1), (.int (16 : Int32)), (.int lo), (.int en), (.int ce), (.long yu), (.int dd), (.ref b7)]) (rest := [(.int (1 : Int32))]) (lenOf own_pd785152518 rfl) rfl (by show 2 * 0 + _ ≤ _; exact Nat.le_of_eq rfl) (hb hby at_631) (fun _ _ => ⟨rfl, e78, (by decide : 2 + 0 ≤ room_1.cells), (by decide : 44 + 0 ≤ room_1.slots)⟩)
        dsimp only [Pt.U, Pt.locs, Pt.cells, Pt.slots] at X79 l79 y79 z79 st79 hQ79
        subst l79 y79 z79
        obtain ⟨hh79, eh079⟩ : ∃ z, T79.heap = z := ⟨_, rfl⟩
        rw [eh079] at hQ79
        obtain ⟨rfl, Nq79, eh79⟩ := hQ79
        have N79 := Fr.app N78 Nq79
        refine own_st st79 ?_
        have e79 : T79.heap = hh46 := eh079.trans eh79
        show own_Gl _ _ _ _ _ _ _ (T79.setTop (mkF m 634 #[.val (.long q1), .second, .val (.int p2), .val (.int lo), .val (.ref b1), .val (.ref b7), .val (.int w_46), .val (.int ng), .val (.int dd), .val (.long yu), .second, .val (.int ce), .val (.int en), .val (.int (1 : Int32))] [(.int (1 : Int32)), (.int (1 : Int32))]))
        refine own_st (fun _ k => XS.iand X79.here hx rfl (hb hby at_634) rfl k) ?_
        show own_Gl _ _ _ _ _ _ _ (T79.setTop (mkF m 635 #[.val (.long q1), .second, .val (.int p2), .val (.int lo), .val (.ref b1), .val (.ref b7), .val (.int w_46), .val (.int ng), .val (.int dd), .val (.long yu), .second, .val (.int ce), .val (.int en), .val (.int (1 : Int32))] [(.int (1 : Int32))]))
        refine own_st (fun _ k => XS.istore X79.here hx rfl (hb hby at_635) rfl (l' := #[.val (.long q1), .second, .val (.int p2), .val (.int lo), .val (.ref b1), .val (.ref b7), .val (.int w_46), .val (.int ng), .val (.int dd), .val (.long yu), .second, .val (.int ce), .val (.int en), .val (.int (1 : Int32))]) rfl k) ?_
        show own_Gl _ _ _ _ _ _ _ (T79.setTop (mkF m 637 #[.val (.long q1), .second, .val (.int p2), .val (.int lo), .val (.ref b1), .val (.ref b7), .val (.int w_46), .val (.int ng), .val (.int dd), .val (.long yu), .second, .val (.int ce), .val (.int en), .val (.int (1 : Int32))] []))
        show own_Gl _ _ _ _ _ _ _ (T79.setTop (mkF m 637 #[.val (.long q1), .second, .val (.int p2), .val (.int lo), .val (.ref b1), .val (.ref b7), .val (.int w_46), .val (.int ng), .val (.int dd), .val (.long yu), .second, .val (.int ce), .val (.int en), .val (.int (1 : Int32))] []))
        exact J637_72 T79 _ N79 X79 e79
      have J499_80 : ∀ (T80 : State) (LL80 : List Loc) (N80 : Fr n0 LL80) (X80 : Stand p l e room_1 s m #[(.long q1), (.int p2)] below meth c T80 LL80 2 44) (e80 : T80.heap = hh46), own_Gl p e below s (own_Q_own_law Z q1 p2 oa ta ko kt h0 n0) room_1.cells room_1.slots (T80.setTop (mkF m 499 #[.val (.long q1), .second, .val (.int p2), .val (.int lo), .val (.ref b1), .val (.ref b7), .val (.int w_46), .val (.int ng), .val (.int dd), .val (.long yu), .second, .val (.int ce), .val (.int en), .val (.int (1 : Int32))] [])) := by
        intro T80 LL80 N80 X80 e80
        show own_Gl _ _ _ _ _ _ _ (T80.setTop (mkF m 499 #[.val (.long q1), .second, .val (.int p2), .val (.int lo), .val (.ref b1), .val (.ref b7), .val (.int w_46), .val (.int ng), .val (.int dd), .val (.long yu), .second, .val (.int ce), .val (.int en), .val (.int (1 : Int32))] []))
        refine own_st (fun _ k => XS.iload X80.here hx rfl (hb hby at_499) rfl k) ?_
        show own_Gl _ _ _ _ _ _ _ (T80.setTop (mkF m 501 #[.val (.long q1), .second, .val (.int p2), .val (.int lo), .val (.ref b1), .val (.ref b7), .val (.int w_46), .val (.int ng), .val (.int dd), .val (.long yu), .second, .val (.int ce), .val (.int en), .val (.int (1 : Int32))] [(.int (1 : Int32))]))
        refine own_st (fun _ k => XS.aload X80.here hx rfl (hb hby at_501) rfl rfl k) ?_
        show own_Gl _ _ _ _ _ _ _ (T80.setTop (mkF m 503 #[.val (.long q1), .second, .val (.int p2), .val (.int lo), .val (.ref b1), .val (.ref b7), .val (.int w_46), .val (.int ng), .val (.int dd), .val (.long yu), .second, .val (.int ce), .val (.int en), .val (.int (1 : Int32))] [(.ref b1), (.int (1 : Int32))]))
        refine own_st (fun _ k => XS.bipush X80.here hx rfl (hb hby at_503) k) ?_
        show own_Gl _ _ _ _ _ _ _ (T80.setTop (mkF m 505 #[.val (.long q1), .second, .val (.int p2), .val (.int lo), .val (.ref b1), .val (.ref b7), .val (.int w_46), .val (.int ng), .val (.int dd), .val (.long yu), .second, .val (.int ce), .val (.int en), .val (.int (1 : Int32))] [(.int (11 : Int32)), (.ref b1), (.int (1 : Int32))]))
        refine own_st (fun _ k => XS.iloadN X80.here hx rfl (hb hby at_505) rfl k) ?_
        show own_Gl _ _ _ _ _ _ _ (T80.setTop (mkF m 506 #[.val (.long q1), .second, .val (.int p2), .val (.int lo), .val (.ref b1), .val (.ref b7), .val (.int w_46), .val (.int ng), .val (.int dd), .val (.long yu), .second, .val (.int ce), .val (.int en), .val (.int (1 : Int32))] [(.int lo), (.int (11 : Int32)), (.ref b1), (.int (1 : Int32))]))
        refine own_st (fun _ k => XS.iload X80.here hx rfl (hb hby at_506) rfl k) ?_
        show own_Gl _ _ _ _ _ _ _ (T80.setTop (mkF m 508 #[.val (.long q1), .second, .val (.int p2), .val (.int lo), .val (.ref b1), .val (.ref b7), .val (.int w_46), .val (.int ng), .val (.int dd), .val (.long yu), .second, .val (.int ce), .val (.int en), .val (.int (1 : Int32))] [(.int en), (.int lo), (.int (11 : Int32)), (.ref b1), (.int (1 : Int32))]))
        refine own_st (fun _ k => XS.iload X80.here hx rfl (hb hby at_508) rfl k) ?_
        show own_Gl _ _ _ _ _ _ _ (T80.setTop (mkF m 510 #[.val (.long q1), .second, .val (.int p2), .val (.int lo), .val (.ref b1), .val (.ref b7), .val (.int w_46), .val (.int ng), .val (.int dd), .val (.long yu), .second, .val (.int ce), .val (.int en), .val (.int (1 : Int32))] [(.int ce), (.int en), (.int lo), (.int (11 : Int32)), (.ref b1), (.int (1 : Int32))]))
        refine own_st (fun _ k => XS.lload X80.here hx rfl (hb hby at_510) rfl k) ?_
        show own_Gl _ _ _ _ _ _ _ (T80.setTop (mkF m 512 #[.val (.long q1), .second, .val (.int p2), .val (.int lo), .val (.ref b1), .val (.ref b7), .val (.int w_46), .val (.int ng), .val (.int dd), .val (.long yu), .second, .val (.int ce), .val (.int en), .val (.int (1 : Int32))] [(.long yu), (.int ce), (.int en), (.int lo), (.int (11 : Int32)), (.ref b1), (.int (1 : Int32))]))
        refine own_st (fun _ k => XS.iload X80.here hx rfl (hb hby at_512) rfl k) ?_
        show own_Gl _ _ _ _ _ _ _ (T80.setTop (mkF m 514 #[.val (.long q1), .second, .val (.int p2), .val (.int lo), .val (.ref b1), .val (.ref b7), .val (.int w_46), .val (.int ng), .val (.int dd), .val (.long yu), .second, .val (.int ce), .val (.int en), .val (.int (1 : Int32))] [(.int dd), (.long yu), (.int ce), (.int en), (.int lo), (.int (11 : Int32)), (.ref b1), (.int (1 : Int32))]))
        refine own_st (fun _ k => XS.aload X80.here hx rfl (hb hby at_514) rfl rfl k) ?_
        show own_Gl _ _ _ _ _ _ _ (T80.setTop (mkF m 516 #[.val (.long q1), .second, .val (.int p2), .val (.int lo), .val (.ref b1), .val (.ref b7), .val (.int w_46), .val (.int ng), .val (.int dd), .val (.long yu), .second, .val (.int ce), .val (.int en), .val (.int (1 : Int32))] [(.ref b7), (.int dd), (.long yu), (.int ce), (.int en), (.int lo), (.int (11 : Int32)), (.ref b1), (.int (1 : Int32))]))
        obtain ⟨_, _, ⟨T81, L81, k81, n81⟩, -, X81, ⟨Lc81, hQ81, l81, y81, z81⟩, st81⟩ := Jvm.LawKit.callS X80 hx (y := (⟨"org/benli/core/MoneyToCharsPinLaw", "cell", "([CIIIIJI[J)Z"⟩ : MethodName)) hown (mvT hZ (hw _ (List.mem_of_getElem? (i := 37) rfl))) (mvT hZ (hw _ (List.mem_of_getElem? (i := 38) rfl))) (mvT hZ (hw _ (List.mem_of_getElem? (i := 39) rfl))) (mvT hZ (hw _ (List.mem_of_getElem? (i := 40) rfl))) (by decide) (backOf (W := 1) (own_rcell l Z a0 hw [] b1 (11 : Int32) lo en ce yu dd b7 k1 k7 g_46 Y C dn_46 N la 11 hh46 n0 Zs52 P46_0 f59 ⟨by decide, by decide⟩ hla.1 hen hNb hcc hy ⟨hdd, hd2⟩ hgv) hZ (hw _ (List.mem_of_getElem? (i := 40) rfl)) (hw _ (List.mem_of_getElem? (i := 39) rfl)) (by decide) (by decide)) (g := (mkF m 516 #[.val (.long q1), .second, .val (.int p2), .val (.int lo), .val (.ref b1), .val (.ref b7), .val (.int w_46), .val (.int ng), .val (.int dd), .val (.long yu), .second, .val (.int ce), .val (.int en), .val (.int (1 : Int32))] [(.ref b7), (.int dd), (.long yu), (.int ce), (.int en), (.int lo), (.int (11 : Int32)), (.ref b1), (.int (1 : Int32))])) rfl (by rw [hml]; rfl) (argsL := [(.ref b1), (.int (11 : Int32)), (.int lo), (.int en), (.int ce), (.long yu), (.int dd), (.ref b7)]) (rest := [(.int (1 : Int32))]) (lenOf own_pd785152518 rfl) rfl (by show 2 * 0 + _ ≤ _; exact Nat.le_of_eq rfl) (hb hby at_516) (fun _ _ => ⟨rfl, e80, (by decide : 2 + 0 ≤ room_1.cells), (by decide : 44 + 0 ≤ room_1.slots)⟩)
        dsimp only [Pt.U, Pt.locs, Pt.cells, Pt.slots] at X81 l81 y81 z81 st81 hQ81
        subst l81 y81 z81
        obtain ⟨hh81, eh081⟩ : ∃ z, T81.heap = z := ⟨_, rfl⟩
        rw [eh081] at hQ81
        obtain ⟨rfl, Nq81, eh81⟩ := hQ81
        have N81 := Fr.app N80 Nq81
        refine own_st st81 ?_
        have e81 : T81.heap = hh46 := eh081.trans eh81
        show own_Gl _ _ _ _ _ _ _ (T81.setTop (mkF m 519 #[.val (.long q1), .second, .val (.int p2), .val (.int lo), .val (.ref b1), .val (.ref b7), .val (.int w_46), .val (.int ng), .val (.int dd), .val (.long yu), .second, .val (.int ce), .val (.int en), .val (.int (1 : Int32))] [(.int (1 : Int32)), (.int (1 : Int32))]))
        refine own_st (fun _ k => XS.iand X81.here hx rfl (hb hby at_519) rfl k) ?_
        show own_Gl _ _ _ _ _ _ _ (T81.setTop (mkF m 520 #[.val (.long q1), .second, .val (.int p2), .val (.int lo), .val (.ref b1), .val (.ref b7), .val (.int w_46), .val (.int ng), .val (.int dd), .val (.long yu), .second, .val (.int ce), .val (.int en), .val (.int (1 : Int32))] [(.int (1 : Int32))]))
        refine own_st (fun _ k => XS.istore X81.here hx rfl (hb hby at_520) rfl (l' := #[.val (.long q1), .second, .val (.int p2), .val (.int lo), .val (.ref b1), .val (.ref b7), .val (.int w_46), .val (.int ng), .val (.int dd), .val (.long yu), .second, .val (.int ce), .val (.int en), .val (.int (1 : Int32))]) rfl k) ?_
        show own_Gl _ _ _ _ _ _ _ (T81.setTop (mkF m 522 #[.val (.long q1), .second, .val (.int p2), .val (.int lo), .val (.ref b1), .val (.ref b7), .val (.int w_46), .val (.int ng), .val (.int dd), .val (.long yu), .second, .val (.int ce), .val (.int en), .val (.int (1 : Int32))] []))
        refine own_st (fun _ k => XS.iload X81.here hx rfl (hb hby at_522) rfl k) ?_
        show own_Gl _ _ _ _ _ _ _ (T81.setTop (mkF m 524 #[.val (.long q1), .second, .val (.int p2), .val (.int lo), .val (.ref b1), .val (.ref b7), .val (.int w_46), .val (.int ng), .val (.int dd), .val (.long yu), .second, .val (.int ce), .val (.int en), .val (.int (1 : Int32))] [(.int (1 : Int32))]))
        refine own_st (fun _ k => XS.aload X81.here hx rfl (hb hby at_524) rfl rfl k) ?_
        show own_Gl _ _ _ _ _ _ _ (T81.setTop (mkF m 526 #[.val (.long q1), .second, .val (.int p2), .val (.int lo), .val (.ref b1), .val (.ref b7), .val (.int w_46), .val (.int ng), .val (.int dd), .val (.long yu), .second, .val (.int ce), .val (.int en), .val (.int (1 : Int32))] [(.ref b1), (.int (1 : Int32))]))
        refine own_st (fun _ k => XS.bipush X81.here hx rfl (hb hby at_526) k) ?_
        show own_Gl _ _ _ _ _ _ _ (T81.setTop (mkF m 528 #[.val (.long q1), .second, .val (.int p2), .val (.int lo), .val (.ref b1), .val (.ref b7), .val (.int w_46), .val (.int ng), .val (.int dd), .val (.long yu), .second, .val (.int ce), .val (.int en), .val (.int (1 : Int32))] [(.int (12 : Int32)), (.ref b1), (.int (1 : Int32))]))
        refine own_st (fun _ k => XS.iloadN X81.here hx rfl (hb hby at_528) rfl k) ?_
        show own_Gl _ _ _ _ _ _ _ (T81.setTop (mkF m 529 #[.val (.long q1), .second, .val (.int p2), .val (.int lo), .val (.ref b1), .val (.ref b7), .val (.int w_46), .val (.int ng), .val (.int dd), .val (.long yu), .second, .val (.int ce), .val (.int en), .val (.int (1 : Int32))] [(.int lo), (.int (12 : Int32)), (.ref b1), (.int (1 : Int32))]))
        refine own_st (fun _ k => XS.iload X81.here hx rfl (hb hby at_529) rfl k) ?_
        show own_Gl _ _ _ _ _ _ _ (T81.setTop (mkF m 531 #[.val (.long q1), .second, .val (.int p2), .val (.int lo), .val (.ref b1), .val (.ref b7), .val (.int w_46), .val (.int ng), .val (.int dd), .val (.long yu), .second, .val (.int ce), .val (.int en), .val (.int (1 : Int32))] [(.int en), (.int lo), (.int (12 : Int32)), (.ref b1), (.int (1 : Int32))]))
        refine own_st (fun _ k => XS.iload X81.here hx rfl (hb hby at_531) rfl k) ?_
        show own_Gl _ _ _ _ _ _ _ (T81.setTop (mkF m 533 #[.val (.long q1), .second, .val (.int p2), .val (.int lo), .val (.ref b1), .val (.ref b7), .val (.int w_46), .val (.int ng), .val (.int dd), .val (.long yu), .second, .val (.int ce), .val (.int en), .val (.int (1 : Int32))] [(.int ce), (.int en), (.int lo), (.int (12 : Int32)), (.ref b1), (.int (1 : Int32))]))
        refine own_st (fun _ k => XS.lload X81.here hx rfl (hb hby at_533) rfl k) ?_
        show own_Gl _ _ _ _ _ _ _ (T81.setTop (mkF m 535 #[.val (.long q1), .second, .val (.int p2), .val (.int lo), .val (.ref b1), .val (.ref b7), .val (.int w_46), .val (.int ng), .val (.int dd), .val (.long yu), .second, .val (.int ce), .val (.int en), .val (.int (1 : Int32))] [(.long yu), (.int ce), (.int en), (.int lo), (.int (12 : Int32)), (.ref b1), (.int (1 : Int32))]))
        refine own_st (fun _ k => XS.iload X81.here hx rfl (hb hby at_535) rfl k) ?_
        show own_Gl _ _ _ _ _ _ _ (T81.setTop (mkF m 537 #[.val (.long q1), .second, .val (.int p2), .val (.int lo), .val (.ref b1), .val (.ref b7), .val (.int w_46), .val (.int ng), .val (.int dd), .val (.long yu), .second, .val (.int ce), .val (.int en), .val (.int (1 : Int32))] [(.int dd), (.long yu), (.int ce), (.int en), (.int lo), (.int (12 : Int32)), (.ref b1), (.int (1 : Int32))]))
        refine own_st (fun _ k => XS.aload X81.here hx rfl (hb hby at_537) rfl rfl k) ?_
        show own_Gl _ _ _ _ _ _ _ (T81.setTop (mkF m 539 #[.val (.long q1), .second, .val (.int p2), .val (.int lo), .val (.ref b1), .val (.ref b7), .val (.int w_46), .val (.int ng), .val (.int dd), .val (.long yu), .second, .val (.int ce), .val (.int en), .val (.int (1 : Int32))] [(.ref b7), (.int dd), (.long yu), (.int ce), (.int en), (.int lo), (.int (12 : Int32)), (.ref b1), (.int (1 : Int32))]))
        obtain ⟨_, _, ⟨T82, L82, k82, n82⟩, -, X82, ⟨Lc82, hQ82, l82, y82, z82⟩, st82⟩ := Jvm.LawKit.callS X81 hx (y := (⟨"org/benli/core/MoneyToCharsPinLaw", "cell", "([CIIIIJI[J)Z"⟩ : MethodName)) hown (mvT hZ (hw _ (List.mem_of_getElem? (i := 37) rfl))) (mvT hZ (hw _ (List.mem_of_getElem? (i := 38) rfl))) (mvT hZ (hw _ (List.mem_of_getElem? (i := 39) rfl))) (mvT hZ (hw _ (List.mem_of_getElem? (i := 40) rfl))) (by decide) (backOf (W := 1) (own_rcell l Z a0 hw [] b1 (12 : Int32) lo en ce yu dd b7 k1 k7 g_46 Y C dn_46 N la 12 hh46 n0 Zs52 P46_0 f59 ⟨by decide, by decide⟩ hla.1 hen hNb hcc hy ⟨hdd, hd2⟩ hgv) hZ (hw _ (List.mem_of_getElem? (i := 40) rfl)) (hw _ (List.mem_of_getElem? (i := 39) rfl)) (by decide) (by decide)) (g := (mkF m 539 #[.val (.long q1), .second, .val (.int p2), .val (.int lo), .val (.ref b1), .val (.ref b7), .val (.int w_46), .val (.int ng), .val (.int dd), .val (.long yu), .second, .val (.int ce), .val (.int en), .val (.int (1 : Int32))] [(.ref b7), (.int dd), (.long yu), (.int ce), (.int en), (.int lo), (.int (12 : Int32)), (.ref b1), (.int (1 : Int32))])) rfl (by rw [hml]; rfl) (argsL := [(.ref b1), (.int (12 : Int32)), (.int lo), (.int en), (.int ce), (.long yu), (.int dd), (.ref b7)]) (rest := [(.int (1 : Int32))]) (lenOf own_pd785152518 rfl) rfl (by show 2 * 0 + _ ≤ _; exact Nat.le_of_eq rfl) (hb hby at_539) (fun _ _ => ⟨rfl, e81, (by decide : 2 + 0 ≤ room_1.cells), (by decide : 44 + 0 ≤ room_1.slots)⟩)
        dsimp only [Pt.U, Pt.locs, Pt.cells, Pt.slots] at X82 l82 y82 z82 st82 hQ82
        subst l82 y82 z82
        obtain ⟨hh82, eh082⟩ : ∃ z, T82.heap = z := ⟨_, rfl⟩
        rw [eh082] at hQ82
        obtain ⟨rfl, Nq82, eh82⟩ := hQ82
        have N82 := Fr.app N81 Nq82
        refine own_st st82 ?_
        have e82 : T82.heap = hh46 := eh082.trans eh82
        show own_Gl _ _ _ _ _ _ _ (T82.setTop (mkF m 542 #[.val (.long q1), .second, .val (.int p2), .val (.int lo), .val (.ref b1), .val (.ref b7), .val (.int w_46), .val (.int ng), .val (.int dd), .val (.long yu), .second, .val (.int ce), .val (.int en), .val (.int (1 : Int32))] [(.int (1 : Int32)), (.int (1 : Int32))]))
        refine own_st (fun _ k => XS.iand X82.here hx rfl (hb hby at_542) rfl k) ?_
        show own_Gl _ _ _ _ _ _ _ (T82.setTop (mkF m 543 #[.val (.long q1), .second, .val (.int p2), .val (.int lo), .val (.ref b1), .val (.ref b7), .val (.int w_46), .val (.int ng), .val (.int dd), .val (.long yu), .second, .val (.int ce), .val (.int en), .val (.int (1 : Int32))] [(.int (1 : Int32))]))
        refine own_st (fun _ k => XS.istore X82.here hx rfl (hb hby at_543) rfl (l' := #[.val (.long q1), .second, .val (.int p2), .val (.int lo), .val (.ref b1), .val (.ref b7), .val (.int w_46), .val (.int ng), .val (.int dd), .val (.long yu), .second, .val (.int ce), .val (.int en), .val (.int (1 : Int32))]) rfl k) ?_
        show own_Gl _ _ _ _ _ _ _ (T82.setTop (mkF m 545 #[.val (.long q1), .second, .val (.int p2), .val (.int lo), .val (.ref b1), .val (.ref b7), .val (.int w_46), .val (.int ng), .val (.int dd), .val (.long yu), .second, .val (.int ce), .val (.int en), .val (.int (1 : Int32))] []))
        refine own_st (fun _ k => XS.iload X82.here hx rfl (hb hby at_545) rfl k) ?_
        show own_Gl _ _ _ _ _ _ _ (T82.setTop (mkF m 547 #[.val (.long q1), .second, .val (.int p2), .val (.int lo), .val (.ref b1), .val (.ref b7), .val (.int w_46), .val (.int ng), .val (.int dd), .val (.long yu), .second, .val (.int ce), .val (.int en), .val (.int (1 : Int32))] [(.int (1 : Int32))]))
        refine own_st (fun _ k => XS.aload X82.here hx rfl (hb hby at_547) rfl rfl k) ?_
        show own_Gl _ _ _ _ _ _ _ (T82.setTop (mkF m 549 #[.val (.long q1), .second, .val (.int p2), .val (.int lo), .val (.ref b1), .val (.ref b7), .val (.int w_46), .val (.int ng), .val (.int dd), .val (.long yu), .second, .val (.int ce), .val (.int en), .val (.int (1 : Int32))] [(.ref b1), (.int (1 : Int32))]))
        refine own_st (fun _ k => XS.bipush X82.here hx rfl (hb hby at_549) k) ?_
        show own_Gl _ _ _ _ _ _ _ (T82.setTop (mkF m 551 #[.val (.long q1), .second, .val (.int p2), .val (.int lo), .val (.ref b1), .val (.ref b7), .val (.int w_46), .val (.int ng), .val (.int dd), .val (.long yu), .second, .val (.int ce), .val (.int en), .val (.int (1 : Int32))] [(.int (13 : Int32)), (.ref b1), (.int (1 : Int32))]))
        refine own_st (fun _ k => XS.iloadN X82.here hx rfl (hb hby at_551) rfl k) ?_
        show own_Gl _ _ _ _ _ _ _ (T82.setTop (mkF m 552 #[.val (.long q1), .second, .val (.int p2), .val (.int lo), .val (.ref b1), .val (.ref b7), .val (.int w_46), .val (.int ng), .val (.int dd), .val (.long yu), .second, .val (.int ce), .val (.int en), .val (.int (1 : Int32))] [(.int lo), (.int (13 : Int32)), (.ref b1), (.int (1 : Int32))]))
        refine own_st (fun _ k => XS.iload X82.here hx rfl (hb hby at_552) rfl k) ?_
        show own_Gl _ _ _ _ _ _ _ (T82.setTop (mkF m 554 #[.val (.long q1), .second, .val (.int p2), .val (.int lo), .val (.ref b1), .val (.ref b7), .val (.int w_46), .val (.int ng), .val (.int dd), .val (.long yu), .second, .val (.int ce), .val (.int en), .val (.int (1 : Int32))] [(.int en), (.int lo), (.int (13 : Int32)), (.ref b1), (.int (1 : Int32))]))
        refine own_st (fun _ k => XS.iload X82.here hx rfl (hb hby at_554) rfl k) ?_
        show own_Gl _ _ _ _ _ _ _ (T82.setTop (mkF m 556 #[.val (.long q1), .second, .val (.int p2), .val (.int lo), .val (.ref b1), .val (.ref b7), .val (.int w_46), .val (.int ng), .val (.int dd), .val (.long yu), .second, .val (.int ce), .val (.int en), .val (.int (1 : Int32))] [(.int ce), (.int en), (.int lo), (.int (13 : Int32)), (.ref b1), (.int (1 : Int32))]))
        refine own_st (fun _ k => XS.lload X82.here hx rfl (hb hby at_556) rfl k) ?_
        show own_Gl _ _ _ _ _ _ _ (T82.setTop (mkF m 558 #[.val (.long q1), .second, .val (.int p2), .val (.int lo), .val (.ref b1), .val (.ref b7), .val (.int w_46), .val (.int ng), .val (.int dd), .val (.long yu), .second, .val (.int ce), .val (.int en), .val (.int (1 : Int32))] [(.long yu), (.int ce), (.int en), (.int lo), (.int (13 : Int32)), (.ref b1), (.int (1 : Int32))]))
        refine own_st (fun _ k => XS.iload X82.here hx rfl (hb hby at_558) rfl k) ?_
        show own_Gl _ _ _ _ _ _ _ (T82.setTop (mkF m 560 #[.val (.long q1), .second, .val (.int p2), .val (.int lo), .val (.ref b1), .val (.ref b7), .val (.int w_46), .val (.int ng), .val (.int dd), .val (.long yu), .second, .val (.int ce), .val (.int en), .val (.int (1 : Int32))] [(.int dd), (.long yu), (.int ce), (.int en), (.int lo), (.int (13 : Int32)), (.ref b1), (.int (1 : Int32))]))
        refine own_st (fun _ k => XS.aload X82.here hx rfl (hb hby at_560) rfl rfl k) ?_
        show own_Gl _ _ _ _ _ _ _ (T82.setTop (mkF m 562 #[.val (.long q1), .second, .val (.int p2), .val (.int lo), .val (.ref b1), .val (.ref b7), .val (.int w_46), .val (.int ng), .val (.int dd), .val (.long yu), .second, .val (.int ce), .val (.int en), .val (.int (1 : Int32))] [(.ref b7), (.int dd), (.long yu), (.int ce), (.int en), (.int lo), (.int (13 : Int32)), (.ref b1), (.int (1 : Int32))]))
        obtain ⟨_, _, ⟨T83, L83, k83, n83⟩, -, X83, ⟨Lc83, hQ83, l83, y83, z83⟩, st83⟩ := Jvm.LawKit.callS X82 hx (y := (⟨"org/benli/core/MoneyToCharsPinLaw", "cell", "([CIIIIJI[J)Z"⟩ : MethodName)) hown (mvT hZ (hw _ (List.mem_of_getElem? (i := 37) rfl))) (mvT hZ (hw _ (List.mem_of_getElem? (i := 38) rfl))) (mvT hZ (hw _ (List.mem_of_getElem? (i := 39) rfl))) (mvT hZ (hw _ (List.mem_of_getElem? (i := 40) rfl))) (by decide) (backOf (W := 1) (own_rcell l Z a0 hw [] b1 (13 : Int32) lo en ce yu dd b7 k1 k7 g_46 Y C dn_46 N la 13 hh46 n0 Zs52 P46_0 f59 ⟨by decide, by decide⟩ hla.1 hen hNb hcc hy ⟨hdd, hd2⟩ hgv) hZ (hw _ (List.mem_of_getElem? (i := 40) rfl)) (hw _ (List.mem_of_getElem? (i := 39) rfl)) (by decide) (by decide)) (g := (mkF m 562 #[.val (.long q1), .second, .val (.int p2), .val (.int lo), .val (.ref b1), .val (.ref b7), .val (.int w_46), .val (.int ng), .val (.int dd), .val (.long yu), .second, .val (.int ce), .val (.int en), .val (.int (1 : Int32))] [(.ref b7), (.int dd), (.long yu), (.int ce), (.int en), (.int lo), (.int (13 : Int32)), (.ref b1), (.int (1 : Int32))])) rfl (by rw [hml]; rfl) (argsL := [(.ref b1), (.int (13 : Int32)), (.int lo), (.int en), (.int ce), (.long yu), (.int dd), (.ref b7)]) (rest := [(.int (1 : Int32))]) (lenOf own_pd785152518 rfl) rfl (by show 2 * 0 + _ ≤ _; exact Nat.le_of_eq rfl) (hb hby at_562) (fun _ _ => ⟨rfl, e82, (by decide : 2 + 0 ≤ room_1.cells), (by decide : 44 + 0 ≤ room_1.slots)⟩)
        dsimp only [Pt.U, Pt.locs, Pt.cells, Pt.slots] at X83 l83 y83 z83 st83 hQ83
        subst l83 y83 z83
        obtain ⟨hh83, eh083⟩ : ∃ z, T83.heap = z := ⟨_, rfl⟩
        rw [eh083] at hQ83
        obtain ⟨rfl, Nq83, eh83⟩ := hQ83
        have N83 := Fr.app N82 Nq83
        refine own_st st83 ?_
        have e83 : T83.heap = hh46 := eh083.trans eh83
        show own_Gl _ _ _ _ _ _ _ (T83.setTop (mkF m 565 #[.val (.long q1), .second, .val (.int p2), .val (.int lo), .val (.ref b1), .val (.ref b7), .val (.int w_46), .val (.int ng), .val (.int dd), .val (.long yu), .second, .val (.int ce), .val (.int en), .val (.int (1 : Int32))] [(.int (1 : Int32)), (.int (1 : Int32))]))
        refine own_st (fun _ k => XS.iand X83.here hx rfl (hb hby at_565) rfl k) ?_
        show own_Gl _ _ _ _ _ _ _ (T83.setTop (mkF m 566 #[.val (.long q1), .second, .val (.int p2), .val (.int lo), .val (.ref b1), .val (.ref b7), .val (.int w_46), .val (.int ng), .val (.int dd), .val (.long yu), .second, .val (.int ce), .val (.int en), .val (.int (1 : Int32))] [(.int (1 : Int32))]))
        refine own_st (fun _ k => XS.istore X83.here hx rfl (hb hby at_566) rfl (l' := #[.val (.long q1), .second, .val (.int p2), .val (.int lo), .val (.ref b1), .val (.ref b7), .val (.int w_46), .val (.int ng), .val (.int dd), .val (.long yu), .second, .val (.int ce), .val (.int en), .val (.int (1 : Int32))]) rfl k) ?_
        show own_Gl _ _ _ _ _ _ _ (T83.setTop (mkF m 568 #[.val (.long q1), .second, .val (.int p2), .val (.int lo), .val (.ref b1), .val (.ref b7), .val (.int w_46), .val (.int ng), .val (.int dd), .val (.long yu), .second, .val (.int ce), .val (.int en), .val (.int (1 : Int32))] []))
        show own_Gl _ _ _ _ _ _ _ (T83.setTop (mkF m 568 #[.val (.long q1), .second, .val (.int p2), .val (.int lo), .val (.ref b1), .val (.ref b7), .val (.int w_46), .val (.int ng), .val (.int dd), .val (.long yu), .second, .val (.int ce), .val (.int en), .val (.int (1 : Int32))] []))
        exact J568_76 T83 _ N83 X83 e83
      have J430_84 : ∀ (T84 : State) (LL84 : List Loc) (N84 : Fr n0 LL84) (X84 : Stand p l e room_1 s m #[(.long q1), (.int p2)] below meth c T84 LL84 2 44) (e84 : T84.heap = hh46), own_Gl p e below s (own_Q_own_law Z q1 p2 oa ta ko kt h0 n0) room_1.cells room_1.slots (T84.setTop (mkF m 430 #[.val (.long q1), .second, .val (.int p2), .val (.int lo), .val (.ref b1), .val (.ref b7), .val (.int w_46), .val (.int ng), .val (.int dd), .val (.long yu), .second, .val (.int ce), .val (.int en), .val (.int (1 : Int32))] [])) := by
        intro T84 LL84 N84 X84 e84
        show own_Gl _ _ _ _ _ _ _ (T84.setTop (mkF m 430 #[.val (.long q1), .second, .val (.int p2), .val (.int lo), .val (.ref b1), .val (.ref b7), .val (.int w_46), .val (.int ng), .val (.int dd), .val (.long yu), .second, .val (.int ce), .val (.int en), .val (.int (1 : Int32))] []))
        refine own_st (fun _ k => XS.iload X84.here hx rfl (hb hby at_430) rfl k) ?_
        show own_Gl _ _ _ _ _ _ _ (T84.setTop (mkF m 432 #[.val (.long q1), .second, .val (.int p2), .val (.int lo), .val (.ref b1), .val (.ref b7), .val (.int w_46), .val (.int ng), .val (.int dd), .val (.long yu), .second, .val (.int ce), .val (.int en), .val (.int (1 : Int32))] [(.int (1 : Int32))]))
        refine own_st (fun _ k => XS.aload X84.here hx rfl (hb hby at_432) rfl rfl k) ?_
        show own_Gl _ _ _ _ _ _ _ (T84.setTop (mkF m 434 #[.val (.long q1), .second, .val (.int p2), .val (.int lo), .val (.ref b1), .val (.ref b7), .val (.int w_46), .val (.int ng), .val (.int dd), .val (.long yu), .second, .val (.int ce), .val (.int en), .val (.int (1 : Int32))] [(.ref b1), (.int (1 : Int32))]))
        refine own_st (fun _ k => XS.bipush X84.here hx rfl (hb hby at_434) k) ?_
        show own_Gl _ _ _ _ _ _ _ (T84.setTop (mkF m 436 #[.val (.long q1), .second, .val (.int p2), .val (.int lo), .val (.ref b1), .val (.ref b7), .val (.int w_46), .val (.int ng), .val (.int dd), .val (.long yu), .second, .val (.int ce), .val (.int en), .val (.int (1 : Int32))] [(.int (8 : Int32)), (.ref b1), (.int (1 : Int32))]))
        refine own_st (fun _ k => XS.iloadN X84.here hx rfl (hb hby at_436) rfl k) ?_
        show own_Gl _ _ _ _ _ _ _ (T84.setTop (mkF m 437 #[.val (.long q1), .second, .val (.int p2), .val (.int lo), .val (.ref b1), .val (.ref b7), .val (.int w_46), .val (.int ng), .val (.int dd), .val (.long yu), .second, .val (.int ce), .val (.int en), .val (.int (1 : Int32))] [(.int lo), (.int (8 : Int32)), (.ref b1), (.int (1 : Int32))]))
        refine own_st (fun _ k => XS.iload X84.here hx rfl (hb hby at_437) rfl k) ?_
        show own_Gl _ _ _ _ _ _ _ (T84.setTop (mkF m 439 #[.val (.long q1), .second, .val (.int p2), .val (.int lo), .val (.ref b1), .val (.ref b7), .val (.int w_46), .val (.int ng), .val (.int dd), .val (.long yu), .second, .val (.int ce), .val (.int en), .val (.int (1 : Int32))] [(.int en), (.int lo), (.int (8 : Int32)), (.ref b1), (.int (1 : Int32))]))
        refine own_st (fun _ k => XS.iload X84.here hx rfl (hb hby at_439) rfl k) ?_
        show own_Gl _ _ _ _ _ _ _ (T84.setTop (mkF m 441 #[.val (.long q1), .second, .val (.int p2), .val (.int lo), .val (.ref b1), .val (.ref b7), .val (.int w_46), .val (.int ng), .val (.int dd), .val (.long yu), .second, .val (.int ce), .val (.int en), .val (.int (1 : Int32))] [(.int ce), (.int en), (.int lo), (.int (8 : Int32)), (.ref b1), (.int (1 : Int32))]))
        refine own_st (fun _ k => XS.lload X84.here hx rfl (hb hby at_441) rfl k) ?_
        show own_Gl _ _ _ _ _ _ _ (T84.setTop (mkF m 443 #[.val (.long q1), .second, .val (.int p2), .val (.int lo), .val (.ref b1), .val (.ref b7), .val (.int w_46), .val (.int ng), .val (.int dd), .val (.long yu), .second, .val (.int ce), .val (.int en), .val (.int (1 : Int32))] [(.long yu), (.int ce), (.int en), (.int lo), (.int (8 : Int32)), (.ref b1), (.int (1 : Int32))]))
        refine own_st (fun _ k => XS.iload X84.here hx rfl (hb hby at_443) rfl k) ?_
        show own_Gl _ _ _ _ _ _ _ (T84.setTop (mkF m 445 #[.val (.long q1), .second, .val (.int p2), .val (.int lo), .val (.ref b1), .val (.ref b7), .val (.int w_46), .val (.int ng), .val (.int dd), .val (.long yu), .second, .val (.int ce), .val (.int en), .val (.int (1 : Int32))] [(.int dd), (.long yu), (.int ce), (.int en), (.int lo), (.int (8 : Int32)), (.ref b1), (.int (1 : Int32))]))
        refine own_st (fun _ k => XS.aload X84.here hx rfl (hb hby at_445) rfl rfl k) ?_
        show own_Gl _ _ _ _ _ _ _ (T84.setTop (mkF m 447 #[.val (.long q1), .second, .val (.int p2), .val (.int lo), .val (.ref b1), .val (.ref b7), .val (.int w_46), .val (.int ng), .val (.int dd), .val (.long yu), .second, .val (.int ce), .val (.int en), .val (.int (1 : Int32))] [(.ref b7), (.int dd), (.long yu), (.int ce), (.int en), (.int lo), (.int (8 : Int32)), (.ref b1), (.int (1 : Int32))]))
        obtain ⟨_, _, ⟨T85, L85, k85, n85⟩, -, X85, ⟨Lc85, hQ85, l85, y85, z85⟩, st85⟩ := Jvm.LawKit.callS X84 hx (y := (⟨"org/benli/core/MoneyToCharsPinLaw", "cell", "([CIIIIJI[J)Z"⟩ : MethodName)) hown (mvT hZ (hw _ (List.mem_of_getElem? (i := 37) rfl))) (mvT hZ (hw _ (List.mem_of_getElem? (i := 38) rfl))) (mvT hZ (hw _ (List.mem_of_getElem? (i := 39) rfl))) (mvT hZ (hw _ (List.mem_of_getElem? (i := 40) rfl))) (by decide) (backOf (W := 1) (own_rcell l Z a0 hw [] b1 (8 : Int32) lo en ce yu dd b7 k1 k7 g_46 Y C dn_46 N la 8 hh46 n0 Zs52 P46_0 f59 ⟨by decide, by decide⟩ hla.1 hen hNb hcc hy ⟨hdd, hd2⟩ hgv) hZ (hw _ (List.mem_of_getElem? (i := 40) rfl)) (hw _ (List.mem_of_getElem? (i := 39) rfl)) (by decide) (by decide)) (g := (mkF m 447 #[.val (.long q1), .second, .val (.int p2), .val (.int lo), .val (.ref b1), .val (.ref b7), .val (.int w_46), .val (.int ng), .val (.int dd), .val (.long yu), .second, .val (.int ce), .val (.int en), .val (.int (1 : Int32))] [(.ref b7), (.int dd), (.long yu), (.int ce), (.int en), (.int lo), (.int (8 : Int32)), (.ref b1), (.int (1 : Int32))])) rfl (by rw [hml]; rfl) (argsL := [(.ref b1), (.int (8 : Int32)), (.int lo), (.int en), (.int ce), (.long yu), (.int dd), (.ref b7)]) (rest := [(.int (1 : Int32))]) (lenOf own_pd785152518 rfl) rfl (by show 2 * 0 + _ ≤ _; exact Nat.le_of_eq rfl) (hb hby at_447) (fun _ _ => ⟨rfl, e84, (by decide : 2 + 0 ≤ room_1.cells), (by decide : 44 + 0 ≤ room_1.slots)⟩)
        dsimp only [Pt.U, Pt.locs, Pt.cells, Pt.slots] at X85 l85 y85 z85 st85 hQ85
        subst l85 y85 z85
        obtain ⟨hh85, eh085⟩ : ∃ z, T85.heap = z := ⟨_, rfl⟩
        rw [eh085] at hQ85
        obtain ⟨rfl, Nq85, eh85⟩ := hQ85
        have N85 := Fr.app N84 Nq85
        refine own_st st85 ?_
        have e85 : T85.heap = hh46 := eh085.trans eh85
        show own_Gl _ _ _ _ _ _ _ (T85.setTop (mkF m 450 #[.val (.long q1), .second, .val (.int p2), .val (.int lo), .val (.ref b1), .val (.ref b7), .val (.int w_46), .val (.int ng), .val (.int dd), .val (.long yu), .second, .val (.int ce), .val (.int en), .val (.int (1 : Int32))] [(.int (1 : Int32)), (.int (1 : Int32))]))
        refine own_st (fun _ k => XS.iand X85.here hx rfl (hb hby at_450) rfl k) ?_
        show own_Gl _ _ _ _ _ _ _ (T85.setTop (mkF m 451 #[.val (.long q1), .second, .val (.int p2), .val (.int lo), .val (.ref b1), .val (.ref b7), .val (.int w_46), .val (.int ng), .val (.int dd), .val (.long yu), .second, .val (.int ce), .val (.int en), .val (.int (1 : Int32))] [(.int (1 : Int32))]))
        refine own_st (fun _ k => XS.istore X85.here hx rfl (hb hby at_451) rfl (l' := #[.val (.long q1), .second, .val (.int p2), .val (.int lo), .val (.ref b1), .val (.ref b7), .val (.int w_46), .val (.int ng), .val (.int dd), .val (.long yu), .second, .val (.int ce), .val (.int en), .val (.int (1 : Int32))]) rfl k) ?_
        show own_Gl _ _ _ _ _ _ _ (T85.setTop (mkF m 453 #[.val (.long q1), .second, .val (.int p2), .val (.int lo), .val (.ref b1), .val (.ref b7), .val (.int w_46), .val (.int ng), .val (.int dd), .val (.long yu), .second, .val (.int ce), .val (.int en), .val (.int (1 : Int32))] []))
        refine own_st (fun _ k => XS.iload X85.here hx rfl (hb hby at_453) rfl k) ?_
        show own_Gl _ _ _ _ _ _ _ (T85.setTop (mkF m 455 #[.val (.long q1), .second, .val (.int p2), .val (.int lo), .val (.ref b1), .val (.ref b7), .val (.int w_46), .val (.int ng), .val (.int dd), .val (.long yu), .second, .val (.int ce), .val (.int en), .val (.int (1 : Int32))] [(.int (1 : Int32))]))
        refine own_st (fun _ k => XS.aload X85.here hx rfl (hb hby at_455) rfl rfl k) ?_
        show own_Gl _ _ _ _ _ _ _ (T85.setTop (mkF m 457 #[.val (.long q1), .second, .val (.int p2), .val (.int lo), .val (.ref b1), .val (.ref b7), .val (.int w_46), .val (.int ng), .val (.int dd), .val (.long yu), .second, .val (.int ce), .val (.int en), .val (.int (1 : Int32))] [(.ref b1), (.int (1 : Int32))]))
        refine own_st (fun _ k => XS.bipush X85.here hx rfl (hb hby at_457) k) ?_
        show own_Gl _ _ _ _ _ _ _ (T85.setTop (mkF m 459 #[.val (.long q1), .second, .val (.int p2), .val (.int lo), .val (.ref b1), .val (.ref b7), .val (.int w_46), .val (.int ng), .val (.int dd), .val (.long yu), .second, .val (.int ce), .val (.int en), .val (.int (1 : Int32))] [(.int (9 : Int32)), (.ref b1), (.int (1 : Int32))]))
        refine own_st (fun _ k => XS.iloadN X85.here hx rfl (hb hby at_459) rfl k) ?_
        show own_Gl _ _ _ _ _ _ _ (T85.setTop (mkF m 460 #[.val (.long q1), .second, .val (.int p2), .val (.int lo), .val (.ref b1), .val (.ref b7), .val (.int w_46), .val (.int ng), .val (.int dd), .val (.long yu), .second, .val (.int ce), .val (.int en), .val (.int (1 : Int32))] [(.int lo), (.int (9 : Int32)), (.ref b1), (.int (1 : Int32))]))
        refine own_st (fun _ k => XS.iload X85.here hx rfl (hb hby at_460) rfl k) ?_
        show own_Gl _ _ _ _ _ _ _ (T85.setTop (mkF m 462 #[.val (.long q1), .second, .val (.int p2), .val (.int lo), .val (.ref b1), .val (.ref b7), .val (.int w_46), .val (.int ng), .val (.int dd), .val (.long yu), .second, .val (.int ce), .val (.int en), .val (.int (1 : Int32))] [(.int en), (.int lo), (.int (9 : Int32)), (.ref b1), (.int (1 : Int32))]))
        refine own_st (fun _ k => XS.iload X85.here hx rfl (hb hby at_462) rfl k) ?_
        show own_Gl _ _ _ _ _ _ _ (T85.setTop (mkF m 464 #[.val (.long q1), .second, .val (.int p2), .val (.int lo), .val (.ref b1), .val (.ref b7), .val (.int w_46), .val (.int ng), .val (.int dd), .val (.long yu), .second, .val (.int ce), .val (.int en), .val (.int (1 : Int32))] [(.int ce), (.int en), (.int lo), (.int (9 : Int32)), (.ref b1), (.int (1 : Int32))]))
        refine own_st (fun _ k => XS.lload X85.here hx rfl (hb hby at_464) rfl k) ?_
        show own_Gl _ _ _ _ _ _ _ (T85.setTop (mkF m 466 #[.val (.long q1), .second, .val (.int p2), .val (.int lo), .val (.ref b1), .val (.ref b7), .val (.int w_46), .val (.int ng), .val (.int dd), .val (.long yu), .second, .val (.int ce), .val (.int en), .val (.int (1 : Int32))] [(.long yu), (.int ce), (.int en), (.int lo), (.int (9 : Int32)), (.ref b1), (.int (1 : Int32))]))
        refine own_st (fun _ k => XS.iload X85.here hx rfl (hb hby at_466) rfl k) ?_
        show own_Gl _ _ _ _ _ _ _ (T85.setTop (mkF m 468 #[.val (.long q1), .second, .val (.int p2), .val (.int lo), .val (.ref b1), .val (.ref b7), .val (.int w_46), .val (.int ng), .val (.int dd), .val (.long yu), .second, .val (.int ce), .val (.int en), .val (.int (1 : Int32))] [(.int dd), (.long yu), (.int ce), (.int en), (.int lo), (.int (9 : Int32)), (.ref b1), (.int (1 : Int32))]))
        refine own_st (fun _ k => XS.aload X85.here hx rfl (hb hby at_468) rfl rfl k) ?_
        show own_Gl _ _ _ _ _ _ _ (T85.setTop (mkF m 470 #[.val (.long q1), .second, .val (.int p2), .val (.int lo), .val (.ref b1), .val (.ref b7), .val (.int w_46), .val (.int ng), .val (.int dd), .val (.long yu), .second, .val (.int ce), .val (.int en), .val (.int (1 : Int32))] [(.ref b7), (.int dd), (.long yu), (.int ce), (.int en), (.int lo), (.int (9 : Int32)), (.ref b1), (.int (1 : Int32))]))
        obtain ⟨_, _, ⟨T86, L86, k86, n86⟩, -, X86, ⟨Lc86, hQ86, l86, y86, z86⟩, st86⟩ := Jvm.LawKit.callS X85 hx (y := (⟨"org/benli/core/MoneyToCharsPinLaw", "cell", "([CIIIIJI[J)Z"⟩ : MethodName)) hown (mvT hZ (hw _ (List.mem_of_getElem? (i := 37) rfl))) (mvT hZ (hw _ (List.mem_of_getElem? (i := 38) rfl))) (mvT hZ (hw _ (List.mem_of_getElem? (i := 39) rfl))) (mvT hZ (hw _ (List.mem_of_getElem? (i := 40) rfl))) (by decide) (backOf (W := 1) (own_rcell l Z a0 hw [] b1 (9 : Int32) lo en ce yu dd b7 k1 k7 g_46 Y C dn_46 N la 9 hh46 n0 Zs52 P46_0 f59 ⟨by decide, by decide⟩ hla.1 hen hNb hcc hy ⟨hdd, hd2⟩ hgv) hZ (hw _ (List.mem_of_getElem? (i := 40) rfl)) (hw _ (List.mem_of_getElem? (i := 39) rfl)) (by decide) (by decide)) (g := (mkF m 470 #[.val (.long q1), .second, .val (.int p2), .val (.int lo), .val (.ref b1), .val (.ref b7), .val (.int w_46), .val (.int ng), .val (.int dd), .val (.long yu), .second, .val (.int ce), .val (.int en), .val (.int (1 : Int32))] [(.ref b7), (.int dd), (.long yu), (.int ce), (.int en), (.int lo), (.int (9 : Int32)), (.ref b1), (.int (1 : Int32))])) rfl (by rw [hml]; rfl) (argsL := [(.ref b1), (.int (9 : Int32)), (.int lo), (.int en), (.int ce), (.long yu), (.int dd), (.ref b7)]) (rest := [(.int (1 : Int32))]) (lenOf own_pd785152518 rfl) rfl (by show 2 * 0 + _ ≤ _; exact Nat.le_of_eq rfl) (hb hby at_470) (fun _ _ => ⟨rfl, e85, (by decide : 2 + 0 ≤ room_1.cells), (by decide : 44 + 0 ≤ room_1.slots)⟩)
        dsimp only [Pt.U, Pt.locs, Pt.cells, Pt.slots] at X86 l86 y86 z86 st86 hQ86
        subst l86 y86 z86
        obtain ⟨hh86, eh086⟩ : ∃ z, T86.heap = z := ⟨_, rfl⟩
        rw [eh086] at hQ86
        obtain ⟨rfl, Nq86, eh86⟩ := hQ86
        have N86 := Fr.app N85 Nq86
        refine own_st st86 ?_
        have e86 : T86.heap = hh46 := eh086.trans eh86
        show own_Gl _ _ _ _ _ _ _ (T86.setTop (mkF m 473 #[.val (.long q1), .second, .val (.int p2), .val (.int lo), .val (.ref b1), .val (.ref b7), .val (.int w_46), .val (.int ng), .val (.int dd), .val (.long yu), .second, .val (.int ce), .val (.int en), .val (.int (1 : Int32))] [(.int (1 : Int32)), (.int (1 : Int32))]))
        refine own_st (fun _ k => XS.iand X86.here hx rfl (hb hby at_473) rfl k) ?_
        show own_Gl _ _ _ _ _ _ _ (T86.setTop (mkF m 474 #[.val (.long q1), .second, .val (.int p2), .val (.int lo), .val (.ref b1), .val (.ref b7), .val (.int w_46), .val (.int ng), .val (.int dd), .val (.long yu), .second, .val (.int ce), .val (.int en), .val (.int (1 : Int32))] [(.int (1 : Int32))]))
        refine own_st (fun _ k => XS.istore X86.here hx rfl (hb hby at_474) rfl (l' := #[.val (.long q1), .second, .val (.int p2), .val (.int lo), .val (.ref b1), .val (.ref b7), .val (.int w_46), .val (.int ng), .val (.int dd), .val (.long yu), .second, .val (.int ce), .val (.int en), .val (.int (1 : Int32))]) rfl k) ?_
        show own_Gl _ _ _ _ _ _ _ (T86.setTop (mkF m 476 #[.val (.long q1), .second, .val (.int p2), .val (.int lo), .val (.ref b1), .val (.ref b7), .val (.int w_46), .val (.int ng), .val (.int dd), .val (.long yu), .second, .val (.int ce), .val (.int en), .val (.int (1 : Int32))] []))
        refine own_st (fun _ k => XS.iload X86.here hx rfl (hb hby at_476) rfl k) ?_
        show own_Gl _ _ _ _ _ _ _ (T86.setTop (mkF m 478 #[.val (.long q1), .second, .val (.int p2), .val (.int lo), .val (.ref b1), .val (.ref b7), .val (.int w_46), .val (.int ng), .val (.int dd), .val (.long yu), .second, .val (.int ce), .val (.int en), .val (.int (1 : Int32))] [(.int (1 : Int32))]))
        refine own_st (fun _ k => XS.aload X86.here hx rfl (hb hby at_478) rfl rfl k) ?_
        show own_Gl _ _ _ _ _ _ _ (T86.setTop (mkF m 480 #[.val (.long q1), .second, .val (.int p2), .val (.int lo), .val (.ref b1), .val (.ref b7), .val (.int w_46), .val (.int ng), .val (.int dd), .val (.long yu), .second, .val (.int ce), .val (.int en), .val (.int (1 : Int32))] [(.ref b1), (.int (1 : Int32))]))
        refine own_st (fun _ k => XS.bipush X86.here hx rfl (hb hby at_480) k) ?_
        show own_Gl _ _ _ _ _ _ _ (T86.setTop (mkF m 482 #[.val (.long q1), .second, .val (.int p2), .val (.int lo), .val (.ref b1), .val (.ref b7), .val (.int w_46), .val (.int ng), .val (.int dd), .val (.long yu), .second, .val (.int ce), .val (.int en), .val (.int (1 : Int32))] [(.int (10 : Int32)), (.ref b1), (.int (1 : Int32))]))
        refine own_st (fun _ k => XS.iloadN X86.here hx rfl (hb hby at_482) rfl k) ?_
        show own_Gl _ _ _ _ _ _ _ (T86.setTop (mkF m 483 #[.val (.long q1), .second, .val (.int p2), .val (.int lo), .val (.ref b1), .val (.ref b7), .val (.int w_46), .val (.int ng), .val (.int dd), .val (.long yu), .second, .val (.int ce), .val (.int en), .val (.int (1 : Int32))] [(.int lo), (.int (10 : Int32)), (.ref b1), (.int (1 : Int32))]))
        refine own_st (fun _ k => XS.iload X86.here hx rfl (hb hby at_483) rfl k) ?_
        show own_Gl _ _ _ _ _ _ _ (T86.setTop (mkF m 485 #[.val (.long q1), .second, .val (.int p2), .val (.int lo), .val (.ref b1), .val (.ref b7), .val (.int w_46), .val (.int ng), .val (.int dd), .val (.long yu), .second, .val (.int ce), .val (.int en), .val (.int (1 : Int32))] [(.int en), (.int lo), (.int (10 : Int32)), (.ref b1), (.int (1 : Int32))]))
        refine own_st (fun _ k => XS.iload X86.here hx rfl (hb hby at_485) rfl k) ?_
        show own_Gl _ _ _ _ _ _ _ (T86.setTop (mkF m 487 #[.val (.long q1), .second, .val (.int p2), .val (.int lo), .val (.ref b1), .val (.ref b7), .val (.int w_46), .val (.int ng), .val (.int dd), .val (.long yu), .second, .val (.int ce), .val (.int en), .val (.int (1 : Int32))] [(.int ce), (.int en), (.int lo), (.int (10 : Int32)), (.ref b1), (.int (1 : Int32))]))
        refine own_st (fun _ k => XS.lload X86.here hx rfl (hb hby at_487) rfl k) ?_
        show own_Gl _ _ _ _ _ _ _ (T86.setTop (mkF m 489 #[.val (.long q1), .second, .val (.int p2), .val (.int lo), .val (.ref b1), .val (.ref b7), .val (.int w_46), .val (.int ng), .val (.int dd), .val (.long yu), .second, .val (.int ce), .val (.int en), .val (.int (1 : Int32))] [(.long yu), (.int ce), (.int en), (.int lo), (.int (10 : Int32)), (.ref b1), (.int (1 : Int32))]))
        refine own_st (fun _ k => XS.iload X86.here hx rfl (hb hby at_489) rfl k) ?_
        show own_Gl _ _ _ _ _ _ _ (T86.setTop (mkF m 491 #[.val (.long q1), .second, .val (.int p2), .val (.int lo), .val (.ref b1), .val (.ref b7), .val (.int w_46), .val (.int ng), .val (.int dd), .val (.long yu), .second, .val (.int ce), .val (.int en), .val (.int (1 : Int32))] [(.int dd), (.long yu), (.int ce), (.int en), (.int lo), (.int (10 : Int32)), (.ref b1), (.int (1 : Int32))]))
        refine own_st (fun _ k => XS.aload X86.here hx rfl (hb hby at_491) rfl rfl k) ?_
        show own_Gl _ _ _ _ _ _ _ (T86.setTop (mkF m 493 #[.val (.long q1), .second, .val (.int p2), .val (.int lo), .val (.ref b1), .val (.ref b7), .val (.int w_46), .val (.int ng), .val (.int dd), .val (.long yu), .second, .val (.int ce), .val (.int en), .val (.int (1 : Int32))] [(.ref b7), (.int dd), (.long yu), (.int ce), (.int en), (.int lo), (.int (10 : Int32)), (.ref b1), (.int (1 : Int32))]))
        obtain ⟨_, _, ⟨T87, L87, k87, n87⟩, -, X87, ⟨Lc87, hQ87, l87, y87, z87⟩, st87⟩ := Jvm.LawKit.callS X86 hx (y := (⟨"org/benli/core/MoneyToCharsPinLaw", "cell", "([CIIIIJI[J)Z"⟩ : MethodName)) hown (mvT hZ (hw _ (List.mem_of_getElem? (i := 37) rfl))) (mvT hZ (hw _ (List.mem_of_getElem? (i := 38) rfl))) (mvT hZ (hw _ (List.mem_of_getElem? (i := 39) rfl))) (mvT hZ (hw _ (List.mem_of_getElem? (i := 40) rfl))) (by decide) (backOf (W := 1) (own_rcell l Z a0 hw [] b1 (10 : Int32) lo en ce yu dd b7 k1 k7 g_46 Y C dn_46 N la 10 hh46 n0 Zs52 P46_0 f59 ⟨by decide, by decide⟩ hla.1 hen hNb hcc hy ⟨hdd, hd2⟩ hgv) hZ (hw _ (List.mem_of_getElem? (i := 40) rfl)) (hw _ (List.mem_of_getElem? (i := 39) rfl)) (by decide) (by decide)) (g := (mkF m 493 #[.val (.long q1), .second, .val (.int p2), .val (.int lo), .val (.ref b1), .val (.ref b7), .val (.int w_46), .val (.int ng), .val (.int dd), .val (.long yu), .second, .val (.int ce), .val (.int en), .val (.int (1 : Int32))] [(.ref b7), (.int dd), (.long yu), (.int ce), (.int en), (.int lo), (.int (10 : Int32)), (.ref b1), (.int (1 : Int32))])) rfl (by rw [hml]; rfl) (argsL := [(.ref b1), (.int (10 : Int32)), (.int lo), (.int en), (.int ce), (.long yu), (.int dd), (.ref b7)]) (rest := [(.int (1 : Int32))]) (lenOf own_pd785152518 rfl) rfl (by show 2 * 0 + _ ≤ _; exact Nat.le_of_eq rfl) (hb hby at_493) (fun _ _ => ⟨rfl, e86, (by decide : 2 + 0 ≤ room_1.cells), (by decide : 44 + 0 ≤ room_1.slots)⟩)
        dsimp only [Pt.U, Pt.locs, Pt.cells, Pt.slots] at X87 l87 y87 z87 st87 hQ87
        subst l87 y87 z87
        obtain ⟨hh87, eh087⟩ : ∃ z, T87.heap = z := ⟨_, rfl⟩
        rw [eh087] at hQ87
        obtain ⟨rfl, Nq87, eh87⟩ := hQ87
        have N87 := Fr.app N86 Nq87
        refine own_st st87 ?_
        have e87 : T87.heap = hh46 := eh087.trans eh87
        show own_Gl _ _ _ _ _ _ _ (T87.setTop (mkF m 496 #[.val (.long q1), .second, .val (.int p2), .val (.int lo), .val (.ref b1), .val (.ref b7), .val (.int w_46), .val (.int ng), .val (.int dd), .val (.long yu), .second, .val (.int ce), .val (.int en), .val (.int (1 : Int32))] [(.int (1 : Int32)), (.int (1 : Int32))]))
        refine own_st (fun _ k => XS.iand X87.here hx rfl (hb hby at_496) rfl k) ?_
        show own_Gl _ _ _ _ _ _ _ (T87.setTop (mkF m 497 #[.val (.long q1), .second, .val (.int p2), .val (.int lo), .val (.ref b1), .val (.ref b7), .val (.int w_46), .val (.int ng), .val (.int dd), .val (.long yu), .second, .val (.int ce), .val (.int en), .val (.int (1 : Int32))] [(.int (1 : Int32))]))
        refine own_st (fun _ k => XS.istore X87.here hx rfl (hb hby at_497) rfl (l' := #[.val (.long q1), .second, .val (.int p2), .val (.int lo), .val (.ref b1), .val (.ref b7), .val (.int w_46), .val (.int ng), .val (.int dd), .val (.long yu), .second, .val (.int ce), .val (.int en), .val (.int (1 : Int32))]) rfl k) ?_
        show own_Gl _ _ _ _ _ _ _ (T87.setTop (mkF m 499 #[.val (.long q1), .second, .val (.int p2), .val (.int lo), .val (.ref b1), .val (.ref b7), .val (.int w_46), .val (.int ng), .val (.int dd), .val (.long yu), .second, .val (.int ce), .val (.int en), .val (.int (1 : Int32))] []))
        show own_Gl _ _ _ _ _ _ _ (T87.setTop (mkF m 499 #[.val (.long q1), .second, .val (.int p2), .val (.int lo), .val (.ref b1), .val (.ref b7), .val (.int w_46), .val (.int ng), .val (.int dd), .val (.long yu), .second, .val (.int ce), .val (.int en), .val (.int (1 : Int32))] []))
        exact J499_80 T87 _ N87 X87 e87
      have J362_88 : ∀ (T88 : State) (LL88 : List Loc) (N88 : Fr n0 LL88) (X88 : Stand p l e room_1 s m #[(.long q1), (.int p2)] below meth c T88 LL88 2 44) (e88 : T88.heap = hh46), own_Gl p e below s (own_Q_own_law Z q1 p2 oa ta ko kt h0 n0) room_1.cells room_1.slots (T88.setTop (mkF m 362 #[.val (.long q1), .second, .val (.int p2), .val (.int lo), .val (.ref b1), .val (.ref b7), .val (.int w_46), .val (.int ng), .val (.int dd), .val (.long yu), .second, .val (.int ce), .val (.int en), .val (.int (1 : Int32))] [])) := by
        intro T88 LL88 N88 X88 e88
        show own_Gl _ _ _ _ _ _ _ (T88.setTop (mkF m 362 #[.val (.long q1), .second, .val (.int p2), .val (.int lo), .val (.ref b1), .val (.ref b7), .val (.int w_46), .val (.int ng), .val (.int dd), .val (.long yu), .second, .val (.int ce), .val (.int en), .val (.int (1 : Int32))] []))
        refine own_st (fun _ k => XS.iload X88.here hx rfl (hb hby at_362) rfl k) ?_
        show own_Gl _ _ _ _ _ _ _ (T88.setTop (mkF m 364 #[.val (.long q1), .second, .val (.int p2), .val (.int lo), .val (.ref b1), .val (.ref b7), .val (.int w_46), .val (.int ng), .val (.int dd), .val (.long yu), .second, .val (.int ce), .val (.int en), .val (.int (1 : Int32))] [(.int (1 : Int32))]))
        refine own_st (fun _ k => XS.aload X88.here hx rfl (hb hby at_364) rfl rfl k) ?_
        show own_Gl _ _ _ _ _ _ _ (T88.setTop (mkF m 366 #[.val (.long q1), .second, .val (.int p2), .val (.int lo), .val (.ref b1), .val (.ref b7), .val (.int w_46), .val (.int ng), .val (.int dd), .val (.long yu), .second, .val (.int ce), .val (.int en), .val (.int (1 : Int32))] [(.ref b1), (.int (1 : Int32))]))
        refine own_st (fun _ k => XS.iconst X88.here hx rfl (hb hby at_366) k) ?_
        show own_Gl _ _ _ _ _ _ _ (T88.setTop (mkF m 367 #[.val (.long q1), .second, .val (.int p2), .val (.int lo), .val (.ref b1), .val (.ref b7), .val (.int w_46), .val (.int ng), .val (.int dd), .val (.long yu), .second, .val (.int ce), .val (.int en), .val (.int (1 : Int32))] [(.int (5 : Int32)), (.ref b1), (.int (1 : Int32))]))
        refine own_st (fun _ k => XS.iloadN X88.here hx rfl (hb hby at_367) rfl k) ?_
        show own_Gl _ _ _ _ _ _ _ (T88.setTop (mkF m 368 #[.val (.long q1), .second, .val (.int p2), .val (.int lo), .val (.ref b1), .val (.ref b7), .val (.int w_46), .val (.int ng), .val (.int dd), .val (.long yu), .second, .val (.int ce), .val (.int en), .val (.int (1 : Int32))] [(.int lo), (.int (5 : Int32)), (.ref b1), (.int (1 : Int32))]))
        refine own_st (fun _ k => XS.iload X88.here hx rfl (hb hby at_368) rfl k) ?_
        show own_Gl _ _ _ _ _ _ _ (T88.setTop (mkF m 370 #[.val (.long q1), .second, .val (.int p2), .val (.int lo), .val (.ref b1), .val (.ref b7), .val (.int w_46), .val (.int ng), .val (.int dd), .val (.long yu), .second, .val (.int ce), .val (.int en), .val (.int (1 : Int32))] [(.int en), (.int lo), (.int (5 : Int32)), (.ref b1), (.int (1 : Int32))]))
        refine own_st (fun _ k => XS.iload X88.here hx rfl (hb hby at_370) rfl k) ?_
        show own_Gl _ _ _ _ _ _ _ (T88.setTop (mkF m 372 #[.val (.long q1), .second, .val (.int p2), .val (.int lo), .val (.ref b1), .val (.ref b7), .val (.int w_46), .val (.int ng), .val (.int dd), .val (.long yu), .second, .val (.int ce), .val (.int en), .val (.int (1 : Int32))] [(.int ce), (.int en), (.int lo), (.int (5 : Int32)), (.ref b1), (.int (1 : Int32))]))
        refine own_st (fun _ k => XS.lload X88.here hx rfl (hb hby at_372) rfl k) ?_
        show own_Gl _ _ _ _ _ _ _ (T88.setTop (mkF m 374 #[.val (.long q1), .second, .val (.int p2), .val (.int lo), .val (.ref b1), .val (.ref b7), .val (.int w_46), .val (.int ng), .val (.int dd), .val (.long yu), .second, .val (.int ce), .val (.int en), .val (.int (1 : Int32))] [(.long yu), (.int ce), (.int en), (.int lo), (.int (5 : Int32)), (.ref b1), (.int (1 : Int32))]))
        refine own_st (fun _ k => XS.iload X88.here hx rfl (hb hby at_374) rfl k) ?_
        show own_Gl _ _ _ _ _ _ _ (T88.setTop (mkF m 376 #[.val (.long q1), .second, .val (.int p2), .val (.int lo), .val (.ref b1), .val (.ref b7), .val (.int w_46), .val (.int ng), .val (.int dd), .val (.long yu), .second, .val (.int ce), .val (.int en), .val (.int (1 : Int32))] [(.int dd), (.long yu), (.int ce), (.int en), (.int lo), (.int (5 : Int32)), (.ref b1), (.int (1 : Int32))]))
        refine own_st (fun _ k => XS.aload X88.here hx rfl (hb hby at_376) rfl rfl k) ?_
        show own_Gl _ _ _ _ _ _ _ (T88.setTop (mkF m 378 #[.val (.long q1), .second, .val (.int p2), .val (.int lo), .val (.ref b1), .val (.ref b7), .val (.int w_46), .val (.int ng), .val (.int dd), .val (.long yu), .second, .val (.int ce), .val (.int en), .val (.int (1 : Int32))] [(.ref b7), (.int dd), (.long yu), (.int ce), (.int en), (.int lo), (.int (5 : Int32)), (.ref b1), (.int (1 : Int32))]))
        obtain ⟨_, _, ⟨T89, L89, k89, n89⟩, -, X89, ⟨Lc89, hQ89, l89, y89, z89⟩, st89⟩ := Jvm.LawKit.callS X88 hx (y := (⟨"org/benli/core/MoneyToCharsPinLaw", "cell", "([CIIIIJI[J)Z"⟩ : MethodName)) hown (mvT hZ (hw _ (List.mem_of_getElem? (i := 37) rfl))) (mvT hZ (hw _ (List.mem_of_getElem? (i := 38) rfl))) (mvT hZ (hw _ (List.mem_of_getElem? (i := 39) rfl))) (mvT hZ (hw _ (List.mem_of_getElem? (i := 40) rfl))) (by decide) (backOf (W := 1) (own_rcell l Z a0 hw [] b1 (5 : Int32) lo en ce yu dd b7 k1 k7 g_46 Y C dn_46 N la 5 hh46 n0 Zs52 P46_0 f59 ⟨by decide, by decide⟩ hla.1 hen hNb hcc hy ⟨hdd, hd2⟩ hgv) hZ (hw _ (List.mem_of_getElem? (i := 40) rfl)) (hw _ (List.mem_of_getElem? (i := 39) rfl)) (by decide) (by decide)) (g := (mkF m 378 #[.val (.long q1), .second, .val (.int p2), .val (.int lo), .val (.ref b1), .val (.ref b7), .val (.int w_46), .val (.int ng), .val (.int dd), .val (.long yu), .second, .val (.int ce), .val (.int en), .val (.int (1 : Int32))] [(.ref b7), (.int dd), (.long yu), (.int ce), (.int en), (.int lo), (.int (5 : Int32)), (.ref b1), (.int (1 : Int32))])) rfl (by rw [hml]; rfl) (argsL := [(.ref b1), (.int (5 : Int32)), (.int lo), (.int en), (.int ce), (.long yu), (.int dd), (.ref b7)]) (rest := [(.int (1 : Int32))]) (lenOf own_pd785152518 rfl) rfl (by show 2 * 0 + _ ≤ _; exact Nat.le_of_eq rfl) (hb hby at_378) (fun _ _ => ⟨rfl, e88, (by decide : 2 + 0 ≤ room_1.cells), (by decide : 44 + 0 ≤ room_1.slots)⟩)
        dsimp only [Pt.U, Pt.locs, Pt.cells, Pt.slots] at X89 l89 y89 z89 st89 hQ89
        subst l89 y89 z89
        obtain ⟨hh89, eh089⟩ : ∃ z, T89.heap = z := ⟨_, rfl⟩
        rw [eh089] at hQ89
        obtain ⟨rfl, Nq89, eh89⟩ := hQ89
        have N89 := Fr.app N88 Nq89
        refine own_st st89 ?_
        have e89 : T89.heap = hh46 := eh089.trans eh89
        show own_Gl _ _ _ _ _ _ _ (T89.setTop (mkF m 381 #[.val (.long q1), .second, .val (.int p2), .val (.int lo), .val (.ref b1), .val (.ref b7), .val (.int w_46), .val (.int ng), .val (.int dd), .val (.long yu), .second, .val (.int ce), .val (.int en), .val (.int (1 : Int32))] [(.int (1 : Int32)), (.int (1 : Int32))]))
        refine own_st (fun _ k => XS.iand X89.here hx rfl (hb hby at_381) rfl k) ?_
        show own_Gl _ _ _ _ _ _ _ (T89.setTop (mkF m 382 #[.val (.long q1), .second, .val (.int p2), .val (.int lo), .val (.ref b1), .val (.ref b7), .val (.int w_46), .val (.int ng), .val (.int dd), .val (.long yu), .second, .val (.int ce), .val (.int en), .val (.int (1 : Int32))] [(.int (1 : Int32))]))
        refine own_st (fun _ k => XS.istore X89.here hx rfl (hb hby at_382) rfl (l' := #[.val (.long q1), .second, .val (.int p2), .val (.int lo), .val (.ref b1), .val (.ref b7), .val (.int w_46), .val (.int ng), .val (.int dd), .val (.long yu), .second, .val (.int ce), .val (.int en), .val (.int (1 : Int32))]) rfl k) ?_
        show own_Gl _ _ _ _ _ _ _ (T89.setTop (mkF m 384 #[.val (.long q1), .second, .val (.int p2), .val (.int lo), .val (.ref b1), .val (.ref b7), .val (.int w_46), .val (.int ng), .val (.int dd), .val (.long yu), .second, .val (.int ce), .val (.int en), .val (.int (1 : Int32))] []))
        refine own_st (fun _ k => XS.iload X89.here hx rfl (hb hby at_384) rfl k) ?_
        show own_Gl _ _ _ _ _ _ _ (T89.setTop (mkF m 386 #[.val (.long q1), .second, .val (.int p2), .val (.int lo), .val (.ref b1), .val (.ref b7), .val (.int w_46), .val (.int ng), .val (.int dd), .val (.long yu), .second, .val (.int ce), .val (.int en), .val (.int (1 : Int32))] [(.int (1 : Int32))]))
        refine own_st (fun _ k => XS.aload X89.here hx rfl (hb hby at_386) rfl rfl k) ?_
        show own_Gl _ _ _ _ _ _ _ (T89.setTop (mkF m 388 #[.val (.long q1), .second, .val (.int p2), .val (.int lo), .val (.ref b1), .val (.ref b7), .val (.int w_46), .val (.int ng), .val (.int dd), .val (.long yu), .second, .val (.int ce), .val (.int en), .val (.int (1 : Int32))] [(.ref b1), (.int (1 : Int32))]))
        refine own_st (fun _ k => XS.bipush X89.here hx rfl (hb hby at_388) k) ?_
        show own_Gl _ _ _ _ _ _ _ (T89.setTop (mkF m 390 #[.val (.long q1), .second, .val (.int p2), .val (.int lo), .val (.ref b1), .val (.ref b7), .val (.int w_46), .val (.int ng), .val (.int dd), .val (.long yu), .second, .val (.int ce), .val (.int en), .val (.int (1 : Int32))] [(.int (6 : Int32)), (.ref b1), (.int (1 : Int32))]))
        refine own_st (fun _ k => XS.iloadN X89.here hx rfl (hb hby at_390) rfl k) ?_
        show own_Gl _ _ _ _ _ _ _ (T89.setTop (mkF m 391 #[.val (.long q1), .second, .val (.int p2), .val (.int lo), .val (.ref b1), .val (.ref b7), .val (.int w_46), .val (.int ng), .val (.int dd), .val (.long yu), .second, .val (.int ce), .val (.int en), .val (.int (1 : Int32))] [(.int lo), (.int (6 : Int32)), (.ref b1), (.int (1 : Int32))]))
        refine own_st (fun _ k => XS.iload X89.here hx rfl (hb hby at_391) rfl k) ?_
        show own_Gl _ _ _ _ _ _ _ (T89.setTop (mkF m 393 #[.val (.long q1), .second, .val (.int p2), .val (.int lo), .val (.ref b1), .val (.ref b7), .val (.int w_46), .val (.int ng), .val (.int dd), .val (.long yu), .second, .val (.int ce), .val (.int en), .val (.int (1 : Int32))] [(.int en), (.int lo), (.int (6 : Int32)), (.ref b1), (.int (1 : Int32))]))
        refine own_st (fun _ k => XS.iload X89.here hx rfl (hb hby at_393) rfl k) ?_
        show own_Gl _ _ _ _ _ _ _ (T89.setTop (mkF m 395 #[.val (.long q1), .second, .val (.int p2), .val (.int lo), .val (.ref b1), .val (.ref b7), .val (.int w_46), .val (.int ng), .val (.int dd), .val (.long yu), .second, .val (.int ce), .val (.int en), .val (.int (1 : Int32))] [(.int ce), (.int en), (.int lo), (.int (6 : Int32)), (.ref b1), (.int (1 : Int32))]))
        refine own_st (fun _ k => XS.lload X89.here hx rfl (hb hby at_395) rfl k) ?_
        show own_Gl _ _ _ _ _ _ _ (T89.setTop (mkF m 397 #[.val (.long q1), .second, .val (.int p2), .val (.int lo), .val (.ref b1), .val (.ref b7), .val (.int w_46), .val (.int ng), .val (.int dd), .val (.long yu), .second, .val (.int ce), .val (.int en), .val (.int (1 : Int32))] [(.long yu), (.int ce), (.int en), (.int lo), (.int (6 : Int32)), (.ref b1), (.int (1 : Int32))]))
        refine own_st (fun _ k => XS.iload X89.here hx rfl (hb hby at_397) rfl k) ?_
        show own_Gl _ _ _ _ _ _ _ (T89.setTop (mkF m 399 #[.val (.long q1), .second, .val (.int p2), .val (.int lo), .val (.ref b1), .val (.ref b7), .val (.int w_46), .val (.int ng), .val (.int dd), .val (.long yu), .second, .val (.int ce), .val (.int en), .val (.int (1 : Int32))] [(.int dd), (.long yu), (.int ce), (.int en), (.int lo), (.int (6 : Int32)), (.ref b1), (.int (1 : Int32))]))
        refine own_st (fun _ k => XS.aload X89.here hx rfl (hb hby at_399) rfl rfl k) ?_
        show own_Gl _ _ _ _ _ _ _ (T89.setTop (mkF m 401 #[.val (.long q1), .second, .val (.int p2), .val (.int lo), .val (.ref b1), .val (.ref b7), .val (.int w_46), .val (.int ng), .val (.int dd), .val (.long yu), .second, .val (.int ce), .val (.int en), .val (.int (1 : Int32))] [(.ref b7), (.int dd), (.long yu), (.int ce), (.int en), (.int lo), (.int (6 : Int32)), (.ref b1), (.int (1 : Int32))]))
        obtain ⟨_, _, ⟨T90, L90, k90, n90⟩, -, X90, ⟨Lc90, hQ90, l90, y90, z90⟩, st90⟩ := Jvm.LawKit.callS X89 hx (y := (⟨"org/benli/core/MoneyToCharsPinLaw", "cell", "([CIIIIJI[J)Z"⟩ : MethodName)) hown (mvT hZ (hw _ (List.mem_of_getElem? (i := 37) rfl))) (mvT hZ (hw _ (List.mem_of_getElem? (i := 38) rfl))) (mvT hZ (hw _ (List.mem_of_getElem? (i := 39) rfl))) (mvT hZ (hw _ (List.mem_of_getElem? (i := 40) rfl))) (by decide) (backOf (W := 1) (own_rcell l Z a0 hw [] b1 (6 : Int32) lo en ce yu dd b7 k1 k7 g_46 Y C dn_46 N la 6 hh46 n0 Zs52 P46_0 f59 ⟨by decide, by decide⟩ hla.1 hen hNb hcc hy ⟨hdd, hd2⟩ hgv) hZ (hw _ (List.mem_of_getElem? (i := 40) rfl)) (hw _ (List.mem_of_getElem? (i := 39) rfl)) (by decide) (by decide)) (g := (mkF m 401 #[.val (.long q1), .second, .val (.int p2), .val (.int lo), .val (.ref b1), .val (.ref b7), .val (.int w_46), .val (.int ng), .val (.int dd), .val (.long yu), .second, .val (.int ce), .val (.int en), .val (.int (1 : Int32))] [(.ref b7), (.int dd), (.long yu), (.int ce), (.int en), (.int lo), (.int (6 : Int32)), (.ref b1), (.int (1 : Int32))])) rfl (by rw [hml]; rfl) (argsL := [(.ref b1), (.int (6 : Int32)), (.int lo), (.int en), (.int ce), (.long yu), (.int dd), (.ref b7)]) (rest := [(.int (1 : Int32))]) (lenOf own_pd785152518 rfl) rfl (by show 2 * 0 + _ ≤ _; exact Nat.le_of_eq rfl) (hb hby at_401) (fun _ _ => ⟨rfl, e89, (by decide : 2 + 0 ≤ room_1.cells), (by decide : 44 + 0 ≤ room_1.slots)⟩)
        dsimp only [Pt.U, Pt.locs, Pt.cells, Pt.slots] at X90 l90 y90 z90 st90 hQ90
        subst l90 y90 z90
        obtain ⟨hh90, eh090⟩ : ∃ z, T90.heap = z := ⟨_, rfl⟩
        rw [eh090] at hQ90
        obtain ⟨rfl, Nq90, eh90⟩ := hQ90
        have N90 := Fr.app N89 Nq90
        refine own_st st90 ?_
        have e90 : T90.heap = hh46 := eh090.trans eh90
        show own_Gl _ _ _ _ _ _ _ (T90.setTop (mkF m 404 #[.val (.long q1), .second, .val (.int p2), .val (.int lo), .val (.ref b1), .val (.ref b7), .val (.int w_46), .val (.int ng), .val (.int dd), .val (.long yu), .second, .val (.int ce), .val (.int en), .val (.int (1 : Int32))] [(.int (1 : Int32)), (.int (1 : Int32))]))
        refine own_st (fun _ k => XS.iand X90.here hx rfl (hb hby at_404) rfl k) ?_
        show own_Gl _ _ _ _ _ _ _ (T90.setTop (mkF m 405 #[.val (.long q1), .second, .val (.int p2), .val (.int lo), .val (.ref b1), .val (.ref b7), .val (.int w_46), .val (.int ng), .val (.int dd), .val (.long yu), .second, .val (.int ce), .val (.int en), .val (.int (1 : Int32))] [(.int (1 : Int32))]))
        refine own_st (fun _ k => XS.istore X90.here hx rfl (hb hby at_405) rfl (l' := #[.val (.long q1), .second, .val (.int p2), .val (.int lo), .val (.ref b1), .val (.ref b7), .val (.int w_46), .val (.int ng), .val (.int dd), .val (.long yu), .second, .val (.int ce), .val (.int en), .val (.int (1 : Int32))]) rfl k) ?_
        show own_Gl _ _ _ _ _ _ _ (T90.setTop (mkF m 407 #[.val (.long q1), .second, .val (.int p2), .val (.int lo), .val (.ref b1), .val (.ref b7), .val (.int w_46), .val (.int ng), .val (.int dd), .val (.long yu), .second, .val (.int ce), .val (.int en), .val (.int (1 : Int32))] []))
        refine own_st (fun _ k => XS.iload X90.here hx rfl (hb hby at_407) rfl k) ?_
        show own_Gl _ _ _ _ _ _ _ (T90.setTop (mkF m 409 #[.val (.long q1), .second, .val (.int p2), .val (.int lo), .val (.ref b1), .val (.ref b7), .val (.int w_46), .val (.int ng), .val (.int dd), .val (.long yu), .second, .val (.int ce), .val (.int en), .val (.int (1 : Int32))] [(.int (1 : Int32))]))
        refine own_st (fun _ k => XS.aload X90.here hx rfl (hb hby at_409) rfl rfl k) ?_
        show own_Gl _ _ _ _ _ _ _ (T90.setTop (mkF m 411 #[.val (.long q1), .second, .val (.int p2), .val (.int lo), .val (.ref b1), .val (.ref b7), .val (.int w_46), .val (.int ng), .val (.int dd), .val (.long yu), .second, .val (.int ce), .val (.int en), .val (.int (1 : Int32))] [(.ref b1), (.int (1 : Int32))]))
        refine own_st (fun _ k => XS.bipush X90.here hx rfl (hb hby at_411) k) ?_
        show own_Gl _ _ _ _ _ _ _ (T90.setTop (mkF m 413 #[.val (.long q1), .second, .val (.int p2), .val (.int lo), .val (.ref b1), .val (.ref b7), .val (.int w_46), .val (.int ng), .val (.int dd), .val (.long yu), .second, .val (.int ce), .val (.int en), .val (.int (1 : Int32))] [(.int (7 : Int32)), (.ref b1), (.int (1 : Int32))]))
        refine own_st (fun _ k => XS.iloadN X90.here hx rfl (hb hby at_413) rfl k) ?_
        show own_Gl _ _ _ _ _ _ _ (T90.setTop (mkF m 414 #[.val (.long q1), .second, .val (.int p2), .val (.int lo), .val (.ref b1), .val (.ref b7), .val (.int w_46), .val (.int ng), .val (.int dd), .val (.long yu), .second, .val (.int ce), .val (.int en), .val (.int (1 : Int32))] [(.int lo), (.int (7 : Int32)), (.ref b1), (.int (1 : Int32))]))
        refine own_st (fun _ k => XS.iload X90.here hx rfl (hb hby at_414) rfl k) ?_
        show own_Gl _ _ _ _ _ _ _ (T90.setTop (mkF m 416 #[.val (.long q1), .second, .val (.int p2), .val (.int lo), .val (.ref b1), .val (.ref b7), .val (.int w_46), .val (.int ng), .val (.int dd), .val (.long yu), .second, .val (.int ce), .val (.int en), .val (.int (1 : Int32))] [(.int en), (.int lo), (.int (7 : Int32)), (.ref b1), (.int (1 : Int32))]))
        refine own_st (fun _ k => XS.iload X90.here hx rfl (hb hby at_416) rfl k) ?_
        show own_Gl _ _ _ _ _ _ _ (T90.setTop (mkF m 418 #[.val (.long q1), .second, .val (.int p2), .val (.int lo), .val (.ref b1), .val (.ref b7), .val (.int w_46), .val (.int ng), .val (.int dd), .val (.long yu), .second, .val (.int ce), .val (.int en), .val (.int (1 : Int32))] [(.int ce), (.int en), (.int lo), (.int (7 : Int32)), (.ref b1), (.int (1 : Int32))]))
        refine own_st (fun _ k => XS.lload X90.here hx rfl (hb hby at_418) rfl k) ?_
        show own_Gl _ _ _ _ _ _ _ (T90.setTop (mkF m 420 #[.val (.long q1), .second, .val (.int p2), .val (.int lo), .val (.ref b1), .val (.ref b7), .val (.int w_46), .val (.int ng), .val (.int dd), .val (.long yu), .second, .val (.int ce), .val (.int en), .val (.int (1 : Int32))] [(.long yu), (.int ce), (.int en), (.int lo), (.int (7 : Int32)), (.ref b1), (.int (1 : Int32))]))
        refine own_st (fun _ k => XS.iload X90.here hx rfl (hb hby at_420) rfl k) ?_
        show own_Gl _ _ _ _ _ _ _ (T90.setTop (mkF m 422 #[.val (.long q1), .second, .val (.int p2), .val (.int lo), .val (.ref b1), .val (.ref b7), .val (.int w_46), .val (.int ng), .val (.int dd), .val (.long yu), .second, .val (.int ce), .val (.int en), .val (.int (1 : Int32))] [(.int dd), (.long yu), (.int ce), (.int en), (.int lo), (.int (7 : Int32)), (.ref b1), (.int (1 : Int32))]))
        refine own_st (fun _ k => XS.aload X90.here hx rfl (hb hby at_422) rfl rfl k) ?_
        show own_Gl _ _ _ _ _ _ _ (T90.setTop (mkF m 424 #[.val (.long q1), .second, .val (.int p2), .val (.int lo), .val (.ref b1), .val (.ref b7), .val (.int w_46), .val (.int ng), .val (.int dd), .val (.long yu), .second, .val (.int ce), .val (.int en), .val (.int (1 : Int32))] [(.ref b7), (.int dd), (.long yu), (.int ce), (.int en), (.int lo), (.int (7 : Int32)), (.ref b1), (.int (1 : Int32))]))
        obtain ⟨_, _, ⟨T91, L91, k91, n91⟩, -, X91, ⟨Lc91, hQ91, l91, y91, z91⟩, st91⟩ := Jvm.LawKit.callS X90 hx (y := (⟨"org/benli/core/MoneyToCharsPinLaw", "cell", "([CIIIIJI[J)Z"⟩ : MethodName)) hown (mvT hZ (hw _ (List.mem_of_getElem? (i := 37) rfl))) (mvT hZ (hw _ (List.mem_of_getElem? (i := 38) rfl))) (mvT hZ (hw _ (List.mem_of_getElem? (i := 39) rfl))) (mvT hZ (hw _ (List.mem_of_getElem? (i := 40) rfl))) (by decide) (backOf (W := 1) (own_rcell l Z a0 hw [] b1 (7 : Int32) lo en ce yu dd b7 k1 k7 g_46 Y C dn_46 N la 7 hh46 n0 Zs52 P46_0 f59 ⟨by decide, by decide⟩ hla.1 hen hNb hcc hy ⟨hdd, hd2⟩ hgv) hZ (hw _ (List.mem_of_getElem? (i := 40) rfl)) (hw _ (List.mem_of_getElem? (i := 39) rfl)) (by decide) (by decide)) (g := (mkF m 424 #[.val (.long q1), .second, .val (.int p2), .val (.int lo), .val (.ref b1), .val (.ref b7), .val (.int w_46), .val (.int ng), .val (.int dd), .val (.long yu), .second, .val (.int ce), .val (.int en), .val (.int (1 : Int32))] [(.ref b7), (.int dd), (.long yu), (.int ce), (.int en), (.int lo), (.int (7 : Int32)), (.ref b1), (.int (1 : Int32))])) rfl (by rw [hml]; rfl) (argsL := [(.ref b1), (.int (7 : Int32)), (.int lo), (.int en), (.int ce), (.long yu), (.int dd), (.ref b7)]) (rest := [(.int (1 : Int32))]) (lenOf own_pd785152518 rfl) rfl (by show 2 * 0 + _ ≤ _; exact Nat.le_of_eq rfl) (hb hby at_424) (fun _ _ => ⟨rfl, e90, (by decide : 2 + 0 ≤ room_1.cells), (by decide : 44 + 0 ≤ room_1.slots)⟩)
        dsimp only [Pt.U, Pt.locs, Pt.cells, Pt.slots] at X91 l91 y91 z91 st91 hQ91
        subst l91 y91 z91
        obtain ⟨hh91, eh091⟩ : ∃ z, T91.heap = z := ⟨_, rfl⟩
        rw [eh091] at hQ91
        obtain ⟨rfl, Nq91, eh91⟩ := hQ91
        have N91 := Fr.app N90 Nq91
        refine own_st st91 ?_
        have e91 : T91.heap = hh46 := eh091.trans eh91
        show own_Gl _ _ _ _ _ _ _ (T91.setTop (mkF m 427 #[.val (.long q1), .second, .val (.int p2), .val (.int lo), .val (.ref b1), .val (.ref b7), .val (.int w_46), .val (.int ng), .val (.int dd), .val (.long yu), .second, .val (.int ce), .val (.int en), .val (.int (1 : Int32))] [(.int (1 : Int32)), (.int (1 : Int32))]))
        refine own_st (fun _ k => XS.iand X91.here hx rfl (hb hby at_427) rfl k) ?_
        show own_Gl _ _ _ _ _ _ _ (T91.setTop (mkF m 428 #[.val (.long q1), .second, .val (.int p2), .val (.int lo), .val (.ref b1), .val (.ref b7), .val (.int w_46), .val (.int ng), .val (.int dd), .val (.long yu), .second, .val (.int ce), .val (.int en), .val (.int (1 : Int32))] [(.int (1 : Int32))]))
        refine own_st (fun _ k => XS.istore X91.here hx rfl (hb hby at_428) rfl (l' := #[.val (.long q1), .second, .val (.int p2), .val (.int lo), .val (.ref b1), .val (.ref b7), .val (.int w_46), .val (.int ng), .val (.int dd), .val (.long yu), .second, .val (.int ce), .val (.int en), .val (.int (1 : Int32))]) rfl k) ?_
        show own_Gl _ _ _ _ _ _ _ (T91.setTop (mkF m 430 #[.val (.long q1), .second, .val (.int p2), .val (.int lo), .val (.ref b1), .val (.ref b7), .val (.int w_46), .val (.int ng), .val (.int dd), .val (.long yu), .second, .val (.int ce), .val (.int en), .val (.int (1 : Int32))] []))
        show own_Gl _ _ _ _ _ _ _ (T91.setTop (mkF m 430 #[.val (.long q1), .second, .val (.int p2), .val (.int lo), .val (.ref b1), .val (.ref b7), .val (.int w_46), .val (.int ng), .val (.int dd), .val (.long yu), .second, .val (.int ce), .val (.int en), .val (.int (1 : Int32))] []))
        exact J430_84 T91 _ N91 X91 e91
      have J296_92 : ∀ (T92 : State) (LL92 : List Loc) (N92 : Fr n0 LL92) (X92 : Stand p l e room_1 s m #[(.long q1), (.int p2)] below meth c T92 LL92 2 44) (e92 : T92.heap = hh46), own_Gl p e below s (own_Q_own_law Z q1 p2 oa ta ko kt h0 n0) room_1.cells room_1.slots (T92.setTop (mkF m 296 #[.val (.long q1), .second, .val (.int p2), .val (.int lo), .val (.ref b1), .val (.ref b7), .val (.int w_46), .val (.int ng), .val (.int dd), .val (.long yu), .second, .val (.int ce), .val (.int en), .val (.int (1 : Int32))] [])) := by
        intro T92 LL92 N92 X92 e92
        show own_Gl _ _ _ _ _ _ _ (T92.setTop (mkF m 296 #[.val (.long q1), .second, .val (.int p2), .val (.int lo), .val (.ref b1), .val (.ref b7), .val (.int w_46), .val (.int ng), .val (.int dd), .val (.long yu), .second, .val (.int ce), .val (.int en), .val (.int (1 : Int32))] []))
        refine own_st (fun _ k => XS.iload X92.here hx rfl (hb hby at_296) rfl k) ?_
        show own_Gl _ _ _ _ _ _ _ (T92.setTop (mkF m 298 #[.val (.long q1), .second, .val (.int p2), .val (.int lo), .val (.ref b1), .val (.ref b7), .val (.int w_46), .val (.int ng), .val (.int dd), .val (.long yu), .second, .val (.int ce), .val (.int en), .val (.int (1 : Int32))] [(.int (1 : Int32))]))
        refine own_st (fun _ k => XS.aload X92.here hx rfl (hb hby at_298) rfl rfl k) ?_
        show own_Gl _ _ _ _ _ _ _ (T92.setTop (mkF m 300 #[.val (.long q1), .second, .val (.int p2), .val (.int lo), .val (.ref b1), .val (.ref b7), .val (.int w_46), .val (.int ng), .val (.int dd), .val (.long yu), .second, .val (.int ce), .val (.int en), .val (.int (1 : Int32))] [(.ref b1), (.int (1 : Int32))]))
        refine own_st (fun _ k => XS.iconst X92.here hx rfl (hb hby at_300) k) ?_
        show own_Gl _ _ _ _ _ _ _ (T92.setTop (mkF m 301 #[.val (.long q1), .second, .val (.int p2), .val (.int lo), .val (.ref b1), .val (.ref b7), .val (.int w_46), .val (.int ng), .val (.int dd), .val (.long yu), .second, .val (.int ce), .val (.int en), .val (.int (1 : Int32))] [(.int (2 : Int32)), (.ref b1), (.int (1 : Int32))]))
        refine own_st (fun _ k => XS.iloadN X92.here hx rfl (hb hby at_301) rfl k) ?_
        show own_Gl _ _ _ _ _ _ _ (T92.setTop (mkF m 302 #[.val (.long q1), .second, .val (.int p2), .val (.int lo), .val (.ref b1), .val (.ref b7), .val (.int w_46), .val (.int ng), .val (.int dd), .val (.long yu), .second, .val (.int ce), .val (.int en), .val (.int (1 : Int32))] [(.int lo), (.int (2 : Int32)), (.ref b1), (.int (1 : Int32))]))
        refine own_st (fun _ k => XS.iload X92.here hx rfl (hb hby at_302) rfl k) ?_
        show own_Gl _ _ _ _ _ _ _ (T92.setTop (mkF m 304 #[.val (.long q1), .second, .val (.int p2), .val (.int lo), .val (.ref b1), .val (.ref b7), .val (.int w_46), .val (.int ng), .val (.int dd), .val (.long yu), .second, .val (.int ce), .val (.int en), .val (.int (1 : Int32))] [(.int en), (.int lo), (.int (2 : Int32)), (.ref b1), (.int (1 : Int32))]))
        refine own_st (fun _ k => XS.iload X92.here hx rfl (hb hby at_304) rfl k) ?_
        show own_Gl _ _ _ _ _ _ _ (T92.setTop (mkF m 306 #[.val (.long q1), .second, .val (.int p2), .val (.int lo), .val (.ref b1), .val (.ref b7), .val (.int w_46), .val (.int ng), .val (.int dd), .val (.long yu), .second, .val (.int ce), .val (.int en), .val (.int (1 : Int32))] [(.int ce), (.int en), (.int lo), (.int (2 : Int32)), (.ref b1), (.int (1 : Int32))]))
        refine own_st (fun _ k => XS.lload X92.here hx rfl (hb hby at_306) rfl k) ?_
        show own_Gl _ _ _ _ _ _ _ (T92.setTop (mkF m 308 #[.val (.long q1), .second, .val (.int p2), .val (.int lo), .val (.ref b1), .val (.ref b7), .val (.int w_46), .val (.int ng), .val (.int dd), .val (.long yu), .second, .val (.int ce), .val (.int en), .val (.int (1 : Int32))] [(.long yu), (.int ce), (.int en), (.int lo), (.int (2 : Int32)), (.ref b1), (.int (1 : Int32))]))
        refine own_st (fun _ k => XS.iload X92.here hx rfl (hb hby at_308) rfl k) ?_
        show own_Gl _ _ _ _ _ _ _ (T92.setTop (mkF m 310 #[.val (.long q1), .second, .val (.int p2), .val (.int lo), .val (.ref b1), .val (.ref b7), .val (.int w_46), .val (.int ng), .val (.int dd), .val (.long yu), .second, .val (.int ce), .val (.int en), .val (.int (1 : Int32))] [(.int dd), (.long yu), (.int ce), (.int en), (.int lo), (.int (2 : Int32)), (.ref b1), (.int (1 : Int32))]))
        refine own_st (fun _ k => XS.aload X92.here hx rfl (hb hby at_310) rfl rfl k) ?_
        show own_Gl _ _ _ _ _ _ _ (T92.setTop (mkF m 312 #[.val (.long q1), .second, .val (.int p2), .val (.int lo), .val (.ref b1), .val (.ref b7), .val (.int w_46), .val (.int ng), .val (.int dd), .val (.long yu), .second, .val (.int ce), .val (.int en), .val (.int (1 : Int32))] [(.ref b7), (.int dd), (.long yu), (.int ce), (.int en), (.int lo), (.int (2 : Int32)), (.ref b1), (.int (1 : Int32))]))
        obtain ⟨_, _, ⟨T93, L93, k93, n93⟩, -, X93, ⟨Lc93, hQ93, l93, y93, z93⟩, st93⟩ := Jvm.LawKit.callS X92 hx (y := (⟨"org/benli/core/MoneyToCharsPinLaw", "cell", "([CIIIIJI[J)Z"⟩ : MethodName)) hown (mvT hZ (hw _ (List.mem_of_getElem? (i := 37) rfl))) (mvT hZ (hw _ (List.mem_of_getElem? (i := 38) rfl))) (mvT hZ (hw _ (List.mem_of_getElem? (i := 39) rfl))) (mvT hZ (hw _ (List.mem_of_getElem? (i := 40) rfl))) (by decide) (backOf (W := 1) (own_rcell l Z a0 hw [] b1 (2 : Int32) lo en ce yu dd b7 k1 k7 g_46 Y C dn_46 N la 2 hh46 n0 Zs52 P46_0 f59 ⟨by decide, by decide⟩ hla.1 hen hNb hcc hy ⟨hdd, hd2⟩ hgv) hZ (hw _ (List.mem_of_getElem? (i := 40) rfl)) (hw _ (List.mem_of_getElem? (i := 39) rfl)) (by decide) (by decide)) (g := (mkF m 312 #[.val (.long q1), .second, .val (.int p2), .val (.int lo), .val (.ref b1), .val (.ref b7), .val (.int w_46), .val (.int ng), .val (.int dd), .val (.long yu), .second, .val (.int ce), .val (.int en), .val (.int (1 : Int32))] [(.ref b7), (.int dd), (.long yu), (.int ce), (.int en), (.int lo), (.int (2 : Int32)), (.ref b1), (.int (1 : Int32))])) rfl (by rw [hml]; rfl) (argsL := [(.ref b1), (.int (2 : Int32)), (.int lo), (.int en), (.int ce), (.long yu), (.int dd), (.ref b7)]) (rest := [(.int (1 : Int32))]) (lenOf own_pd785152518 rfl) rfl (by show 2 * 0 + _ ≤ _; exact Nat.le_of_eq rfl) (hb hby at_312) (fun _ _ => ⟨rfl, e92, (by decide : 2 + 0 ≤ room_1.cells), (by decide : 44 + 0 ≤ room_1.slots)⟩)
        dsimp only [Pt.U, Pt.locs, Pt.cells, Pt.slots] at X93 l93 y93 z93 st93 hQ93
        subst l93 y93 z93
        obtain ⟨hh93, eh093⟩ : ∃ z, T93.heap = z := ⟨_, rfl⟩
        rw [eh093] at hQ93
        obtain ⟨rfl, Nq93, eh93⟩ := hQ93
        have N93 := Fr.app N92 Nq93
        refine own_st st93 ?_
        have e93 : T93.heap = hh46 := eh093.trans eh93
        show own_Gl _ _ _ _ _ _ _ (T93.setTop (mkF m 315 #[.val (.long q1), .second, .val (.int p2), .val (.int lo), .val (.ref b1), .val (.ref b7), .val (.int w_46), .val (.int ng), .val (.int dd), .val (.long yu), .second, .val (.int ce), .val (.int en), .val (.int (1 : Int32))] [(.int (1 : Int32)), (.int (1 : Int32))]))
        refine own_st (fun _ k => XS.iand X93.here hx rfl (hb hby at_315) rfl k) ?_
        show own_Gl _ _ _ _ _ _ _ (T93.setTop (mkF m 316 #[.val (.long q1), .second, .val (.int p2), .val (.int lo), .val (.ref b1), .val (.ref b7), .val (.int w_46), .val (.int ng), .val (.int dd), .val (.long yu), .second, .val (.int ce), .val (.int en), .val (.int (1 : Int32))] [(.int (1 : Int32))]))
        refine own_st (fun _ k => XS.istore X93.here hx rfl (hb hby at_316) rfl (l' := #[.val (.long q1), .second, .val (.int p2), .val (.int lo), .val (.ref b1), .val (.ref b7), .val (.int w_46), .val (.int ng), .val (.int dd), .val (.long yu), .second, .val (.int ce), .val (.int en), .val (.int (1 : Int32))]) rfl k) ?_
        show own_Gl _ _ _ _ _ _ _ (T93.setTop (mkF m 318 #[.val (.long q1), .second, .val (.int p2), .val (.int lo), .val (.ref b1), .val (.ref b7), .val (.int w_46), .val (.int ng), .val (.int dd), .val (.long yu), .second, .val (.int ce), .val (.int en), .val (.int (1 : Int32))] []))
        refine own_st (fun _ k => XS.iload X93.here hx rfl (hb hby at_318) rfl k) ?_
        show own_Gl _ _ _ _ _ _ _ (T93.setTop (mkF m 320 #[.val (.long q1), .second, .val (.int p2), .val (.int lo), .val (.ref b1), .val (.ref b7), .val (.int w_46), .val (.int ng), .val (.int dd), .val (.long yu), .second, .val (.int ce), .val (.int en), .val (.int (1 : Int32))] [(.int (1 : Int32))]))
        refine own_st (fun _ k => XS.aload X93.here hx rfl (hb hby at_320) rfl rfl k) ?_
        show own_Gl _ _ _ _ _ _ _ (T93.setTop (mkF m 322 #[.val (.long q1), .second, .val (.int p2), .val (.int lo), .val (.ref b1), .val (.ref b7), .val (.int w_46), .val (.int ng), .val (.int dd), .val (.long yu), .second, .val (.int ce), .val (.int en), .val (.int (1 : Int32))] [(.ref b1), (.int (1 : Int32))]))
        refine own_st (fun _ k => XS.iconst X93.here hx rfl (hb hby at_322) k) ?_
        show own_Gl _ _ _ _ _ _ _ (T93.setTop (mkF m 323 #[.val (.long q1), .second, .val (.int p2), .val (.int lo), .val (.ref b1), .val (.ref b7), .val (.int w_46), .val (.int ng), .val (.int dd), .val (.long yu), .second, .val (.int ce), .val (.int en), .val (.int (1 : Int32))] [(.int (3 : Int32)), (.ref b1), (.int (1 : Int32))]))
        refine own_st (fun _ k => XS.iloadN X93.here hx rfl (hb hby at_323) rfl k) ?_
        show own_Gl _ _ _ _ _ _ _ (T93.setTop (mkF m 324 #[.val (.long q1), .second, .val (.int p2), .val (.int lo), .val (.ref b1), .val (.ref b7), .val (.int w_46), .val (.int ng), .val (.int dd), .val (.long yu), .second, .val (.int ce), .val (.int en), .val (.int (1 : Int32))] [(.int lo), (.int (3 : Int32)), (.ref b1), (.int (1 : Int32))]))
        refine own_st (fun _ k => XS.iload X93.here hx rfl (hb hby at_324) rfl k) ?_
        show own_Gl _ _ _ _ _ _ _ (T93.setTop (mkF m 326 #[.val (.long q1), .second, .val (.int p2), .val (.int lo), .val (.ref b1), .val (.ref b7), .val (.int w_46), .val (.int ng), .val (.int dd), .val (.long yu), .second, .val (.int ce), .val (.int en), .val (.int (1 : Int32))] [(.int en), (.int lo), (.int (3 : Int32)), (.ref b1), (.int (1 : Int32))]))
        refine own_st (fun _ k => XS.iload X93.here hx rfl (hb hby at_326) rfl k) ?_
        show own_Gl _ _ _ _ _ _ _ (T93.setTop (mkF m 328 #[.val (.long q1), .second, .val (.int p2), .val (.int lo), .val (.ref b1), .val (.ref b7), .val (.int w_46), .val (.int ng), .val (.int dd), .val (.long yu), .second, .val (.int ce), .val (.int en), .val (.int (1 : Int32))] [(.int ce), (.int en), (.int lo), (.int (3 : Int32)), (.ref b1), (.int (1 : Int32))]))
        refine own_st (fun _ k => XS.lload X93.here hx rfl (hb hby at_328) rfl k) ?_
        show own_Gl _ _ _ _ _ _ _ (T93.setTop (mkF m 330 #[.val (.long q1), .second, .val (.int p2), .val (.int lo), .val (.ref b1), .val (.ref b7), .val (.int w_46), .val (.int ng), .val (.int dd), .val (.long yu), .second, .val (.int ce), .val (.int en), .val (.int (1 : Int32))] [(.long yu), (.int ce), (.int en), (.int lo), (.int (3 : Int32)), (.ref b1), (.int (1 : Int32))]))
        refine own_st (fun _ k => XS.iload X93.here hx rfl (hb hby at_330) rfl k) ?_
        show own_Gl _ _ _ _ _ _ _ (T93.setTop (mkF m 332 #[.val (.long q1), .second, .val (.int p2), .val (.int lo), .val (.ref b1), .val (.ref b7), .val (.int w_46), .val (.int ng), .val (.int dd), .val (.long yu), .second, .val (.int ce), .val (.int en), .val (.int (1 : Int32))] [(.int dd), (.long yu), (.int ce), (.int en), (.int lo), (.int (3 : Int32)), (.ref b1), (.int (1 : Int32))]))
        refine own_st (fun _ k => XS.aload X93.here hx rfl (hb hby at_332) rfl rfl k) ?_
        show own_Gl _ _ _ _ _ _ _ (T93.setTop (mkF m 334 #[.val (.long q1), .second, .val (.int p2), .val (.int lo), .val (.ref b1), .val (.ref b7), .val (.int w_46), .val (.int ng), .val (.int dd), .val (.long yu), .second, .val (.int ce), .val (.int en), .val (.int (1 : Int32))] [(.ref b7), (.int dd), (.long yu), (.int ce), (.int en), (.int lo), (.int (3 : Int32)), (.ref b1), (.int (1 : Int32))]))
        obtain ⟨_, _, ⟨T94, L94, k94, n94⟩, -, X94, ⟨Lc94, hQ94, l94, y94, z94⟩, st94⟩ := Jvm.LawKit.callS X93 hx (y := (⟨"org/benli/core/MoneyToCharsPinLaw", "cell", "([CIIIIJI[J)Z"⟩ : MethodName)) hown (mvT hZ (hw _ (List.mem_of_getElem? (i := 37) rfl))) (mvT hZ (hw _ (List.mem_of_getElem? (i := 38) rfl))) (mvT hZ (hw _ (List.mem_of_getElem? (i := 39) rfl))) (mvT hZ (hw _ (List.mem_of_getElem? (i := 40) rfl))) (by decide) (backOf (W := 1) (own_rcell l Z a0 hw [] b1 (3 : Int32) lo en ce yu dd b7 k1 k7 g_46 Y C dn_46 N la 3 hh46 n0 Zs52 P46_0 f59 ⟨by decide, by decide⟩ hla.1 hen hNb hcc hy ⟨hdd, hd2⟩ hgv) hZ (hw _ (List.mem_of_getElem? (i := 40) rfl)) (hw _ (List.mem_of_getElem? (i := 39) rfl)) (by decide) (by decide)) (g := (mkF m 334 #[.val (.long q1), .second, .val (.int p2), .val (.int lo), .val (.ref b1), .val (.ref b7), .val (.int w_46), .val (.int ng), .val (.int dd), .val (.long yu), .second, .val (.int ce), .val (.int en), .val (.int (1 : Int32))] [(.ref b7), (.int dd), (.long yu), (.int ce), (.int en), (.int lo), (.int (3 : Int32)), (.ref b1), (.int (1 : Int32))])) rfl (by rw [hml]; rfl) (argsL := [(.ref b1), (.int (3 : Int32)), (.int lo), (.int en), (.int ce), (.long yu), (.int dd), (.ref b7)]) (rest := [(.int (1 : Int32))]) (lenOf own_pd785152518 rfl) rfl (by show 2 * 0 + _ ≤ _; exact Nat.le_of_eq rfl) (hb hby at_334) (fun _ _ => ⟨rfl, e93, (by decide : 2 + 0 ≤ room_1.cells), (by decide : 44 + 0 ≤ room_1.slots)⟩)
        dsimp only [Pt.U, Pt.locs, Pt.cells, Pt.slots] at X94 l94 y94 z94 st94 hQ94
        subst l94 y94 z94
        obtain ⟨hh94, eh094⟩ : ∃ z, T94.heap = z := ⟨_, rfl⟩
        rw [eh094] at hQ94
        obtain ⟨rfl, Nq94, eh94⟩ := hQ94
        have N94 := Fr.app N93 Nq94
        refine own_st st94 ?_
        have e94 : T94.heap = hh46 := eh094.trans eh94
        show own_Gl _ _ _ _ _ _ _ (T94.setTop (mkF m 337 #[.val (.long q1), .second, .val (.int p2), .val (.int lo), .val (.ref b1), .val (.ref b7), .val (.int w_46), .val (.int ng), .val (.int dd), .val (.long yu), .second, .val (.int ce), .val (.int en), .val (.int (1 : Int32))] [(.int (1 : Int32)), (.int (1 : Int32))]))
        refine own_st (fun _ k => XS.iand X94.here hx rfl (hb hby at_337) rfl k) ?_
        show own_Gl _ _ _ _ _ _ _ (T94.setTop (mkF m 338 #[.val (.long q1), .second, .val (.int p2), .val (.int lo), .val (.ref b1), .val (.ref b7), .val (.int w_46), .val (.int ng), .val (.int dd), .val (.long yu), .second, .val (.int ce), .val (.int en), .val (.int (1 : Int32))] [(.int (1 : Int32))]))
        refine own_st (fun _ k => XS.istore X94.here hx rfl (hb hby at_338) rfl (l' := #[.val (.long q1), .second, .val (.int p2), .val (.int lo), .val (.ref b1), .val (.ref b7), .val (.int w_46), .val (.int ng), .val (.int dd), .val (.long yu), .second, .val (.int ce), .val (.int en), .val (.int (1 : Int32))]) rfl k) ?_
        show own_Gl _ _ _ _ _ _ _ (T94.setTop (mkF m 340 #[.val (.long q1), .second, .val (.int p2), .val (.int lo), .val (.ref b1), .val (.ref b7), .val (.int w_46), .val (.int ng), .val (.int dd), .val (.long yu), .second, .val (.int ce), .val (.int en), .val (.int (1 : Int32))] []))
        refine own_st (fun _ k => XS.iload X94.here hx rfl (hb hby at_340) rfl k) ?_
        show own_Gl _ _ _ _ _ _ _ (T94.setTop (mkF m 342 #[.val (.long q1), .second, .val (.int p2), .val (.int lo), .val (.ref b1), .val (.ref b7), .val (.int w_46), .val (.int ng), .val (.int dd), .val (.long yu), .second, .val (.int ce), .val (.int en), .val (.int (1 : Int32))] [(.int (1 : Int32))]))
        refine own_st (fun _ k => XS.aload X94.here hx rfl (hb hby at_342) rfl rfl k) ?_
        show own_Gl _ _ _ _ _ _ _ (T94.setTop (mkF m 344 #[.val (.long q1), .second, .val (.int p2), .val (.int lo), .val (.ref b1), .val (.ref b7), .val (.int w_46), .val (.int ng), .val (.int dd), .val (.long yu), .second, .val (.int ce), .val (.int en), .val (.int (1 : Int32))] [(.ref b1), (.int (1 : Int32))]))
        refine own_st (fun _ k => XS.iconst X94.here hx rfl (hb hby at_344) k) ?_
        show own_Gl _ _ _ _ _ _ _ (T94.setTop (mkF m 345 #[.val (.long q1), .second, .val (.int p2), .val (.int lo), .val (.ref b1), .val (.ref b7), .val (.int w_46), .val (.int ng), .val (.int dd), .val (.long yu), .second, .val (.int ce), .val (.int en), .val (.int (1 : Int32))] [(.int (4 : Int32)), (.ref b1), (.int (1 : Int32))]))
        refine own_st (fun _ k => XS.iloadN X94.here hx rfl (hb hby at_345) rfl k) ?_
        show own_Gl _ _ _ _ _ _ _ (T94.setTop (mkF m 346 #[.val (.long q1), .second, .val (.int p2), .val (.int lo), .val (.ref b1), .val (.ref b7), .val (.int w_46), .val (.int ng), .val (.int dd), .val (.long yu), .second, .val (.int ce), .val (.int en), .val (.int (1 : Int32))] [(.int lo), (.int (4 : Int32)), (.ref b1), (.int (1 : Int32))]))
        refine own_st (fun _ k => XS.iload X94.here hx rfl (hb hby at_346) rfl k) ?_
        show own_Gl _ _ _ _ _ _ _ (T94.setTop (mkF m 348 #[.val (.long q1), .second, .val (.int p2), .val (.int lo), .val (.ref b1), .val (.ref b7), .val (.int w_46), .val (.int ng), .val (.int dd), .val (.long yu), .second, .val (.int ce), .val (.int en), .val (.int (1 : Int32))] [(.int en), (.int lo), (.int (4 : Int32)), (.ref b1), (.int (1 : Int32))]))
        refine own_st (fun _ k => XS.iload X94.here hx rfl (hb hby at_348) rfl k) ?_
        show own_Gl _ _ _ _ _ _ _ (T94.setTop (mkF m 350 #[.val (.long q1), .second, .val (.int p2), .val (.int lo), .val (.ref b1), .val (.ref b7), .val (.int w_46), .val (.int ng), .val (.int dd), .val (.long yu), .second, .val (.int ce), .val (.int en), .val (.int (1 : Int32))] [(.int ce), (.int en), (.int lo), (.int (4 : Int32)), (.ref b1), (.int (1 : Int32))]))
        refine own_st (fun _ k => XS.lload X94.here hx rfl (hb hby at_350) rfl k) ?_
        show own_Gl _ _ _ _ _ _ _ (T94.setTop (mkF m 352 #[.val (.long q1), .second, .val (.int p2), .val (.int lo), .val (.ref b1), .val (.ref b7), .val (.int w_46), .val (.int ng), .val (.int dd), .val (.long yu), .second, .val (.int ce), .val (.int en), .val (.int (1 : Int32))] [(.long yu), (.int ce), (.int en), (.int lo), (.int (4 : Int32)), (.ref b1), (.int (1 : Int32))]))
        refine own_st (fun _ k => XS.iload X94.here hx rfl (hb hby at_352) rfl k) ?_
        show own_Gl _ _ _ _ _ _ _ (T94.setTop (mkF m 354 #[.val (.long q1), .second, .val (.int p2), .val (.int lo), .val (.ref b1), .val (.ref b7), .val (.int w_46), .val (.int ng), .val (.int dd), .val (.long yu), .second, .val (.int ce), .val (.int en), .val (.int (1 : Int32))] [(.int dd), (.long yu), (.int ce), (.int en), (.int lo), (.int (4 : Int32)), (.ref b1), (.int (1 : Int32))]))
        refine own_st (fun _ k => XS.aload X94.here hx rfl (hb hby at_354) rfl rfl k) ?_
        show own_Gl _ _ _ _ _ _ _ (T94.setTop (mkF m 356 #[.val (.long q1), .second, .val (.int p2), .val (.int lo), .val (.ref b1), .val (.ref b7), .val (.int w_46), .val (.int ng), .val (.int dd), .val (.long yu), .second, .val (.int ce), .val (.int en), .val (.int (1 : Int32))] [(.ref b7), (.int dd), (.long yu), (.int ce), (.int en), (.int lo), (.int (4 : Int32)), (.ref b1), (.int (1 : Int32))]))
        obtain ⟨_, _, ⟨T95, L95, k95, n95⟩, -, X95, ⟨Lc95, hQ95, l95, y95, z95⟩, st95⟩ := Jvm.LawKit.callS X94 hx (y := (⟨"org/benli/core/MoneyToCharsPinLaw", "cell", "([CIIIIJI[J)Z"⟩ : MethodName)) hown (mvT hZ (hw _ (List.mem_of_getElem? (i := 37) rfl))) (mvT hZ (hw _ (List.mem_of_getElem? (i := 38) rfl))) (mvT hZ (hw _ (List.mem_of_getElem? (i := 39) rfl))) (mvT hZ (hw _ (List.mem_of_getElem? (i := 40) rfl))) (by decide) (backOf (W := 1) (own_rcell l Z a0 hw [] b1 (4 : Int32) lo en ce yu dd b7 k1 k7 g_46 Y C dn_46 N la 4 hh46 n0 Zs52 P46_0 f59 ⟨by decide, by decide⟩ hla.1 hen hNb hcc hy ⟨hdd, hd2⟩ hgv) hZ (hw _ (List.mem_of_getElem? (i := 40) rfl)) (hw _ (List.mem_of_getElem? (i := 39) rfl)) (by decide) (by decide)) (g := (mkF m 356 #[.val (.long q1), .second, .val (.int p2), .val (.int lo), .val (.ref b1), .val (.ref b7), .val (.int w_46), .val (.int ng), .val (.int dd), .val (.long yu), .second, .val (.int ce), .val (.int en), .val (.int (1 : Int32))] [(.ref b7), (.int dd), (.long yu), (.int ce), (.int en), (.int lo), (.int (4 : Int32)), (.ref b1), (.int (1 : Int32))])) rfl (by rw [hml]; rfl) (argsL := [(.ref b1), (.int (4 : Int32)), (.int lo), (.int en), (.int ce), (.long yu), (.int dd), (.ref b7)]) (rest := [(.int (1 : Int32))]) (lenOf own_pd785152518 rfl) rfl (by show 2 * 0 + _ ≤ _; exact Nat.le_of_eq rfl) (hb hby at_356) (fun _ _ => ⟨rfl, e94, (by decide : 2 + 0 ≤ room_1.cells), (by decide : 44 + 0 ≤ room_1.slots)⟩)
        dsimp only [Pt.U, Pt.locs, Pt.cells, Pt.slots] at X95 l95 y95 z95 st95 hQ95
        subst l95 y95 z95
        obtain ⟨hh95, eh095⟩ : ∃ z, T95.heap = z := ⟨_, rfl⟩
        rw [eh095] at hQ95
        obtain ⟨rfl, Nq95, eh95⟩ := hQ95
        have N95 := Fr.app N94 Nq95
        refine own_st st95 ?_
        have e95 : T95.heap = hh46 := eh095.trans eh95
        show own_Gl _ _ _ _ _ _ _ (T95.setTop (mkF m 359 #[.val (.long q1), .second, .val (.int p2), .val (.int lo), .val (.ref b1), .val (.ref b7), .val (.int w_46), .val (.int ng), .val (.int dd), .val (.long yu), .second, .val (.int ce), .val (.int en), .val (.int (1 : Int32))] [(.int (1 : Int32)), (.int (1 : Int32))]))
        refine own_st (fun _ k => XS.iand X95.here hx rfl (hb hby at_359) rfl k) ?_
        show own_Gl _ _ _ _ _ _ _ (T95.setTop (mkF m 360 #[.val (.long q1), .second, .val (.int p2), .val (.int lo), .val (.ref b1), .val (.ref b7), .val (.int w_46), .val (.int ng), .val (.int dd), .val (.long yu), .second, .val (.int ce), .val (.int en), .val (.int (1 : Int32))] [(.int (1 : Int32))]))
        refine own_st (fun _ k => XS.istore X95.here hx rfl (hb hby at_360) rfl (l' := #[.val (.long q1), .second, .val (.int p2), .val (.int lo), .val (.ref b1), .val (.ref b7), .val (.int w_46), .val (.int ng), .val (.int dd), .val (.long yu), .second, .val (.int ce), .val (.int en), .val (.int (1 : Int32))]) rfl k) ?_
        show own_Gl _ _ _ _ _ _ _ (T95.setTop (mkF m 362 #[.val (.long q1), .second, .val (.int p2), .val (.int lo), .val (.ref b1), .val (.ref b7), .val (.int w_46), .val (.int ng), .val (.int dd), .val (.long yu), .second, .val (.int ce), .val (.int en), .val (.int (1 : Int32))] []))
        show own_Gl _ _ _ _ _ _ _ (T95.setTop (mkF m 362 #[.val (.long q1), .second, .val (.int p2), .val (.int lo), .val (.ref b1), .val (.ref b7), .val (.int w_46), .val (.int ng), .val (.int dd), .val (.long yu), .second, .val (.int ce), .val (.int en), .val (.int (1 : Int32))] []))
        exact J362_88 T95 _ N95 X95 e95
      refine own_st (fun _ k => XS.iload X63.here hx rfl (hb hby at_252) rfl k) ?_
      show own_Gl _ _ _ _ _ _ _ (T63.setTop (mkF m 254 #[.val (.long q1), .second, .val (.int p2), .val (.int lo), .val (.ref b1), .val (.ref b7), .val (.int w_46), .val (.int ng), .val (.int dd), .val (.long yu), .second, .val (.int ce), .val (.int en), .val (.int (1 : Int32))] [(.int (1 : Int32))]))
      refine own_st (fun _ k => XS.aload X63.here hx rfl (hb hby at_254) rfl rfl k) ?_
      show own_Gl _ _ _ _ _ _ _ (T63.setTop (mkF m 256 #[.val (.long q1), .second, .val (.int p2), .val (.int lo), .val (.ref b1), .val (.ref b7), .val (.int w_46), .val (.int ng), .val (.int dd), .val (.long yu), .second, .val (.int ce), .val (.int en), .val (.int (1 : Int32))] [(.ref b1), (.int (1 : Int32))]))
      refine own_st (fun _ k => XS.iconst X63.here hx rfl (hb hby at_256) k) ?_
      show own_Gl _ _ _ _ _ _ _ (T63.setTop (mkF m 257 #[.val (.long q1), .second, .val (.int p2), .val (.int lo), .val (.ref b1), .val (.ref b7), .val (.int w_46), .val (.int ng), .val (.int dd), .val (.long yu), .second, .val (.int ce), .val (.int en), .val (.int (1 : Int32))] [(.int (0 : Int32)), (.ref b1), (.int (1 : Int32))]))
      refine own_st (fun _ k => XS.iloadN X63.here hx rfl (hb hby at_257) rfl k) ?_
      show own_Gl _ _ _ _ _ _ _ (T63.setTop (mkF m 258 #[.val (.long q1), .second, .val (.int p2), .val (.int lo), .val (.ref b1), .val (.ref b7), .val (.int w_46), .val (.int ng), .val (.int dd), .val (.long yu), .second, .val (.int ce), .val (.int en), .val (.int (1 : Int32))] [(.int lo), (.int (0 : Int32)), (.ref b1), (.int (1 : Int32))]))
      refine own_st (fun _ k => XS.iload X63.here hx rfl (hb hby at_258) rfl k) ?_
      show own_Gl _ _ _ _ _ _ _ (T63.setTop (mkF m 260 #[.val (.long q1), .second, .val (.int p2), .val (.int lo), .val (.ref b1), .val (.ref b7), .val (.int w_46), .val (.int ng), .val (.int dd), .val (.long yu), .second, .val (.int ce), .val (.int en), .val (.int (1 : Int32))] [(.int en), (.int lo), (.int (0 : Int32)), (.ref b1), (.int (1 : Int32))]))
      refine own_st (fun _ k => XS.iload X63.here hx rfl (hb hby at_260) rfl k) ?_
      show own_Gl _ _ _ _ _ _ _ (T63.setTop (mkF m 262 #[.val (.long q1), .second, .val (.int p2), .val (.int lo), .val (.ref b1), .val (.ref b7), .val (.int w_46), .val (.int ng), .val (.int dd), .val (.long yu), .second, .val (.int ce), .val (.int en), .val (.int (1 : Int32))] [(.int ce), (.int en), (.int lo), (.int (0 : Int32)), (.ref b1), (.int (1 : Int32))]))
      refine own_st (fun _ k => XS.lload X63.here hx rfl (hb hby at_262) rfl k) ?_
      show own_Gl _ _ _ _ _ _ _ (T63.setTop (mkF m 264 #[.val (.long q1), .second, .val (.int p2), .val (.int lo), .val (.ref b1), .val (.ref b7), .val (.int w_46), .val (.int ng), .val (.int dd), .val (.long yu), .second, .val (.int ce), .val (.int en), .val (.int (1 : Int32))] [(.long yu), (.int ce), (.int en), (.int lo), (.int (0 : Int32)), (.ref b1), (.int (1 : Int32))]))
      refine own_st (fun _ k => XS.iload X63.here hx rfl (hb hby at_264) rfl k) ?_
      show own_Gl _ _ _ _ _ _ _ (T63.setTop (mkF m 266 #[.val (.long q1), .second, .val (.int p2), .val (.int lo), .val (.ref b1), .val (.ref b7), .val (.int w_46), .val (.int ng), .val (.int dd), .val (.long yu), .second, .val (.int ce), .val (.int en), .val (.int (1 : Int32))] [(.int dd), (.long yu), (.int ce), (.int en), (.int lo), (.int (0 : Int32)), (.ref b1), (.int (1 : Int32))]))
      refine own_st (fun _ k => XS.aload X63.here hx rfl (hb hby at_266) rfl rfl k) ?_
      show own_Gl _ _ _ _ _ _ _ (T63.setTop (mkF m 268 #[.val (.long q1), .second, .val (.int p2), .val (.int lo), .val (.ref b1), .val (.ref b7), .val (.int w_46), .val (.int ng), .val (.int dd), .val (.long yu), .second, .val (.int ce), .val (.int en), .val (.int (1 : Int32))] [(.ref b7), (.int dd), (.long yu), (.int ce), (.int en), (.int lo), (.int (0 : Int32)), (.ref b1), (.int (1 : Int32))]))
      obtain ⟨_, _, ⟨T96, L96, k96, n96⟩, -, X96, ⟨Lc96, hQ96, l96, y96, z96⟩, st96⟩ := Jvm.LawKit.callS X63 hx (y := (⟨"org/benli/core/MoneyToCharsPinLaw", "cell", "([CIIIIJI[J)Z"⟩ : MethodName)) hown (mvT hZ (hw _ (List.mem_of_getElem? (i := 37) rfl))) (mvT hZ (hw _ (List.mem_of_getElem? (i := 38) rfl))) (mvT hZ (hw _ (List.mem_of_getElem? (i := 39) rfl))) (mvT hZ (hw _ (List.mem_of_getElem? (i := 40) rfl))) (by decide) (backOf (W := 1) (own_rcell l Z a0 hw [] b1 (0 : Int32) lo en ce yu dd b7 k1 k7 g_46 Y C dn_46 N la 0 hh46 n0 Zs52 P46_0 f59 ⟨by decide, by decide⟩ hla.1 hen hNb hcc hy ⟨hdd, hd2⟩ hgv) hZ (hw _ (List.mem_of_getElem? (i := 40) rfl)) (hw _ (List.mem_of_getElem? (i := 39) rfl)) (by decide) (by decide)) (g := (mkF m 268 #[.val (.long q1), .second, .val (.int p2), .val (.int lo), .val (.ref b1), .val (.ref b7), .val (.int w_46), .val (.int ng), .val (.int dd), .val (.long yu), .second, .val (.int ce), .val (.int en), .val (.int (1 : Int32))] [(.ref b7), (.int dd), (.long yu), (.int ce), (.int en), (.int lo), (.int (0 : Int32)), (.ref b1), (.int (1 : Int32))])) rfl (by rw [hml]; rfl) (argsL := [(.ref b1), (.int (0 : Int32)), (.int lo), (.int en), (.int ce), (.long yu), (.int dd), (.ref b7)]) (rest := [(.int (1 : Int32))]) (lenOf own_pd785152518 rfl) rfl (by show 2 * 0 + _ ≤ _; exact Nat.le_of_eq rfl) (hb hby at_268) (fun _ _ => ⟨rfl, e63, (by decide : 2 + 0 ≤ room_1.cells), (by decide : 44 + 0 ≤ room_1.slots)⟩)
      dsimp only [Pt.U, Pt.locs, Pt.cells, Pt.slots] at X96 l96 y96 z96 st96 hQ96
      subst l96 y96 z96
      obtain ⟨hh96, eh096⟩ : ∃ z, T96.heap = z := ⟨_, rfl⟩
      rw [eh096] at hQ96
      obtain ⟨rfl, Nq96, eh96⟩ := hQ96
      have N96 := Fr.app N63 Nq96
      refine own_st st96 ?_
      have e96 : T96.heap = hh46 := eh096.trans eh96
      show own_Gl _ _ _ _ _ _ _ (T96.setTop (mkF m 271 #[.val (.long q1), .second, .val (.int p2), .val (.int lo), .val (.ref b1), .val (.ref b7), .val (.int w_46), .val (.int ng), .val (.int dd), .val (.long yu), .second, .val (.int ce), .val (.int en), .val (.int (1 : Int32))] [(.int (1 : Int32)), (.int (1 : Int32))]))
      refine own_st (fun _ k => XS.iand X96.here hx rfl (hb hby at_271) rfl k) ?_
      show own_Gl _ _ _ _ _ _ _ (T96.setTop (mkF m 272 #[.val (.long q1), .second, .val (.int p2), .val (.int lo), .val (.ref b1), .val (.ref b7), .val (.int w_46), .val (.int ng), .val (.int dd), .val (.long yu), .second, .val (.int ce), .val (.int en), .val (.int (1 : Int32))] [(.int (1 : Int32))]))
      refine own_st (fun _ k => XS.istore X96.here hx rfl (hb hby at_272) rfl (l' := #[.val (.long q1), .second, .val (.int p2), .val (.int lo), .val (.ref b1), .val (.ref b7), .val (.int w_46), .val (.int ng), .val (.int dd), .val (.long yu), .second, .val (.int ce), .val (.int en), .val (.int (1 : Int32))]) rfl k) ?_
      show own_Gl _ _ _ _ _ _ _ (T96.setTop (mkF m 274 #[.val (.long q1), .second, .val (.int p2), .val (.int lo), .val (.ref b1), .val (.ref b7), .val (.int w_46), .val (.int ng), .val (.int dd), .val (.long yu), .second, .val (.int ce), .val (.int en), .val (.int (1 : Int32))] []))
      refine own_st (fun _ k => XS.iload X96.here hx rfl (hb hby at_274) rfl k) ?_
      show own_Gl _ _ _ _ _ _ _ (T96.setTop (mkF m 276 #[.val (.long q1), .second, .val (.int p2), .val (.int lo), .val (.ref b1), .val (.ref b7), .val (.int w_46), .val (.int ng), .val (.int dd), .val (.long yu), .second, .val (.int ce), .val (.int en), .val (.int (1 : Int32))] [(.int (1 : Int32))]))
      refine own_st (fun _ k => XS.aload X96.here hx rfl (hb hby at_276) rfl rfl k) ?_
      show own_Gl _ _ _ _ _ _ _ (T96.setTop (mkF m 278 #[.val (.long q1), .second, .val (.int p2), .val (.int lo), .val (.ref b1), .val (.ref b7), .val (.int w_46), .val (.int ng), .val (.int dd), .val (.long yu), .second, .val (.int ce), .val (.int en), .val (.int (1 : Int32))] [(.ref b1), (.int (1 : Int32))]))
      refine own_st (fun _ k => XS.iconst X96.here hx rfl (hb hby at_278) k) ?_
      show own_Gl _ _ _ _ _ _ _ (T96.setTop (mkF m 279 #[.val (.long q1), .second, .val (.int p2), .val (.int lo), .val (.ref b1), .val (.ref b7), .val (.int w_46), .val (.int ng), .val (.int dd), .val (.long yu), .second, .val (.int ce), .val (.int en), .val (.int (1 : Int32))] [(.int (1 : Int32)), (.ref b1), (.int (1 : Int32))]))
      refine own_st (fun _ k => XS.iloadN X96.here hx rfl (hb hby at_279) rfl k) ?_
      show own_Gl _ _ _ _ _ _ _ (T96.setTop (mkF m 280 #[.val (.long q1), .second, .val (.int p2), .val (.int lo), .val (.ref b1), .val (.ref b7), .val (.int w_46), .val (.int ng), .val (.int dd), .val (.long yu), .second, .val (.int ce), .val (.int en), .val (.int (1 : Int32))] [(.int lo), (.int (1 : Int32)), (.ref b1), (.int (1 : Int32))]))
      refine own_st (fun _ k => XS.iload X96.here hx rfl (hb hby at_280) rfl k) ?_
      show own_Gl _ _ _ _ _ _ _ (T96.setTop (mkF m 282 #[.val (.long q1), .second, .val (.int p2), .val (.int lo), .val (.ref b1), .val (.ref b7), .val (.int w_46), .val (.int ng), .val (.int dd), .val (.long yu), .second, .val (.int ce), .val (.int en), .val (.int (1 : Int32))] [(.int en), (.int lo), (.int (1 : Int32)), (.ref b1), (.int (1 : Int32))]))
      refine own_st (fun _ k => XS.iload X96.here hx rfl (hb hby at_282) rfl k) ?_
      show own_Gl _ _ _ _ _ _ _ (T96.setTop (mkF m 284 #[.val (.long q1), .second, .val (.int p2), .val (.int lo), .val (.ref b1), .val (.ref b7), .val (.int w_46), .val (.int ng), .val (.int dd), .val (.long yu), .second, .val (.int ce), .val (.int en), .val (.int (1 : Int32))] [(.int ce), (.int en), (.int lo), (.int (1 : Int32)), (.ref b1), (.int (1 : Int32))]))
      refine own_st (fun _ k => XS.lload X96.here hx rfl (hb hby at_284) rfl k) ?_
      show own_Gl _ _ _ _ _ _ _ (T96.setTop (mkF m 286 #[.val (.long q1), .second, .val (.int p2), .val (.int lo), .val (.ref b1), .val (.ref b7), .val (.int w_46), .val (.int ng), .val (.int dd), .val (.long yu), .second, .val (.int ce), .val (.int en), .val (.int (1 : Int32))] [(.long yu), (.int ce), (.int en), (.int lo), (.int (1 : Int32)), (.ref b1), (.int (1 : Int32))]))
      refine own_st (fun _ k => XS.iload X96.here hx rfl (hb hby at_286) rfl k) ?_
      show own_Gl _ _ _ _ _ _ _ (T96.setTop (mkF m 288 #[.val (.long q1), .second, .val (.int p2), .val (.int lo), .val (.ref b1), .val (.ref b7), .val (.int w_46), .val (.int ng), .val (.int dd), .val (.long yu), .second, .val (.int ce), .val (.int en), .val (.int (1 : Int32))] [(.int dd), (.long yu), (.int ce), (.int en), (.int lo), (.int (1 : Int32)), (.ref b1), (.int (1 : Int32))]))
      refine own_st (fun _ k => XS.aload X96.here hx rfl (hb hby at_288) rfl rfl k) ?_
      show own_Gl _ _ _ _ _ _ _ (T96.setTop (mkF m 290 #[.val (.long q1), .second, .val (.int p2), .val (.int lo), .val (.ref b1), .val (.ref b7), .val (.int w_46), .val (.int ng), .val (.int dd), .val (.long yu), .second, .val (.int ce), .val (.int en), .val (.int (1 : Int32))] [(.ref b7), (.int dd), (.long yu), (.int ce), (.int en), (.int lo), (.int (1 : Int32)), (.ref b1), (.int (1 : Int32))]))
      obtain ⟨_, _, ⟨T97, L97, k97, n97⟩, -, X97, ⟨Lc97, hQ97, l97, y97, z97⟩, st97⟩ := Jvm.LawKit.callS X96 hx (y := (⟨"org/benli/core/MoneyToCharsPinLaw", "cell", "([CIIIIJI[J)Z"⟩ : MethodName)) hown (mvT hZ (hw _ (List.mem_of_getElem? (i := 37) rfl))) (mvT hZ (hw _ (List.mem_of_getElem? (i := 38) rfl))) (mvT hZ (hw _ (List.mem_of_getElem? (i := 39) rfl))) (mvT hZ (hw _ (List.mem_of_getElem? (i := 40) rfl))) (by decide) (backOf (W := 1) (own_rcell l Z a0 hw [] b1 (1 : Int32) lo en ce yu dd b7 k1 k7 g_46 Y C dn_46 N la 1 hh46 n0 Zs52 P46_0 f59 ⟨by decide, by decide⟩ hla.1 hen hNb hcc hy ⟨hdd, hd2⟩ hgv) hZ (hw _ (List.mem_of_getElem? (i := 40) rfl)) (hw _ (List.mem_of_getElem? (i := 39) rfl)) (by decide) (by decide)) (g := (mkF m 290 #[.val (.long q1), .second, .val (.int p2), .val (.int lo), .val (.ref b1), .val (.ref b7), .val (.int w_46), .val (.int ng), .val (.int dd), .val (.long yu), .second, .val (.int ce), .val (.int en), .val (.int (1 : Int32))] [(.ref b7), (.int dd), (.long yu), (.int ce), (.int en), (.int lo), (.int (1 : Int32)), (.ref b1), (.int (1 : Int32))])) rfl (by rw [hml]; rfl) (argsL := [(.ref b1), (.int (1 : Int32)), (.int lo), (.int en), (.int ce), (.long yu), (.int dd), (.ref b7)]) (rest := [(.int (1 : Int32))]) (lenOf own_pd785152518 rfl) rfl (by show 2 * 0 + _ ≤ _; exact Nat.le_of_eq rfl) (hb hby at_290) (fun _ _ => ⟨rfl, e96, (by decide : 2 + 0 ≤ room_1.cells), (by decide : 44 + 0 ≤ room_1.slots)⟩)
      dsimp only [Pt.U, Pt.locs, Pt.cells, Pt.slots] at X97 l97 y97 z97 st97 hQ97
      subst l97 y97 z97
      obtain ⟨hh97, eh097⟩ : ∃ z, T97.heap = z := ⟨_, rfl⟩
      rw [eh097] at hQ97
      obtain ⟨rfl, Nq97, eh97⟩ := hQ97
      have N97 := Fr.app N96 Nq97
      refine own_st st97 ?_
      have e97 : T97.heap = hh46 := eh097.trans eh97
      show own_Gl _ _ _ _ _ _ _ (T97.setTop (mkF m 293 #[.val (.long q1), .second, .val (.int p2), .val (.int lo), .val (.ref b1), .val (.ref b7), .val (.int w_46), .val (.int ng), .val (.int dd), .val (.long yu), .second, .val (.int ce), .val (.int en), .val (.int (1 : Int32))] [(.int (1 : Int32)), (.int (1 : Int32))]))
      refine own_st (fun _ k => XS.iand X97.here hx rfl (hb hby at_293) rfl k) ?_
      show own_Gl _ _ _ _ _ _ _ (T97.setTop (mkF m 294 #[.val (.long q1), .second, .val (.int p2), .val (.int lo), .val (.ref b1), .val (.ref b7), .val (.int w_46), .val (.int ng), .val (.int dd), .val (.long yu), .second, .val (.int ce), .val (.int en), .val (.int (1 : Int32))] [(.int (1 : Int32))]))
      refine own_st (fun _ k => XS.istore X97.here hx rfl (hb hby at_294) rfl (l' := #[.val (.long q1), .second, .val (.int p2), .val (.int lo), .val (.ref b1), .val (.ref b7), .val (.int w_46), .val (.int ng), .val (.int dd), .val (.long yu), .second, .val (.int ce), .val (.int en), .val (.int (1 : Int32))]) rfl k) ?_
      show own_Gl _ _ _ _ _ _ _ (T97.setTop (mkF m 296 #[.val (.long q1), .second, .val (.int p2), .val (.int lo), .val (.ref b1), .val (.ref b7), .val (.int w_46), .val (.int ng), .val (.int dd), .val (.long yu), .second, .val (.int ce), .val (.int en), .val (.int (1 : Int32))] []))
      show own_Gl _ _ _ _ _ _ _ (T97.setTop (mkF m 296 #[.val (.long q1), .second, .val (.int p2), .val (.int lo), .val (.ref b1), .val (.ref b7), .val (.int w_46), .val (.int ng), .val (.int dd), .val (.long yu), .second, .val (.int ce), .val (.int en), .val (.int (1 : Int32))] []))
      exact J296_92 T97 _ N97 X97 e97
    refine own_st (fun _ k => XS.iload X60.here hx rfl (hb hby at_222) rfl k) ?_
    show own_Gl _ _ _ _ _ _ _ (T60.setTop (mkF m 224 #[.val (.long q1), .second, .val (.int p2), .val (.int lo), .val (.ref b1), .val (.ref b7), .val (.int w_46), .val (.int ng), .val (.int dd), .val (.long yu), .second, .val (.int ce), .unset, .unset] [(.int dd)]))
    refine own_st (fun _ k => XS.iconst X60.here hx rfl (hb hby at_224) k) ?_
    show own_Gl _ _ _ _ _ _ _ (T60.setTop (mkF m 225 #[.val (.long q1), .second, .val (.int p2), .val (.int lo), .val (.ref b1), .val (.ref b7), .val (.int w_46), .val (.int ng), .val (.int dd), .val (.long yu), .second, .val (.int ce), .unset, .unset] [(.int (1 : Int32)), (.int dd)]))
    by_cases hc225 : (1 : Int32) < dd
    · refine own_st (fun _ k => XS.icmpNo X60.here hx rfl (hb hby at_225) rfl (tlt hc225).2.2.2 k) ?_
      show own_Gl _ _ _ _ _ _ _ (T60.setTop (mkF m 228 #[.val (.long q1), .second, .val (.int p2), .val (.int lo), .val (.ref b1), .val (.ref b7), .val (.int w_46), .val (.int ng), .val (.int dd), .val (.long yu), .second, .val (.int ce), .unset, .unset] []))
      refine own_st (fun _ k => XS.lload X60.here hx rfl (hb hby at_228) rfl k) ?_
      show own_Gl _ _ _ _ _ _ _ (T60.setTop (mkF m 230 #[.val (.long q1), .second, .val (.int p2), .val (.int lo), .val (.ref b1), .val (.ref b7), .val (.int w_46), .val (.int ng), .val (.int dd), .val (.long yu), .second, .val (.int ce), .unset, .unset] [(.long yu)]))
      refine own_st (fun _ k => XS.aload X60.here hx rfl (hb hby at_230) rfl rfl k) ?_
      show own_Gl _ _ _ _ _ _ _ (T60.setTop (mkF m 232 #[.val (.long q1), .second, .val (.int p2), .val (.int lo), .val (.ref b1), .val (.ref b7), .val (.int w_46), .val (.int ng), .val (.int dd), .val (.long yu), .second, .val (.int ce), .unset, .unset] [(.ref b7), (.long yu)]))
      refine own_st (fun _ k => XS.iload X60.here hx rfl (hb hby at_232) rfl k) ?_
      show own_Gl _ _ _ _ _ _ _ (T60.setTop (mkF m 234 #[.val (.long q1), .second, .val (.int p2), .val (.int lo), .val (.ref b1), .val (.ref b7), .val (.int w_46), .val (.int ng), .val (.int dd), .val (.long yu), .second, .val (.int ce), .unset, .unset] [(.int dd), (.ref b7), (.long yu)]))
      refine own_st (fun _ k => XS.iconst X60.here hx rfl (hb hby at_234) k) ?_
      show own_Gl _ _ _ _ _ _ _ (T60.setTop (mkF m 235 #[.val (.long q1), .second, .val (.int p2), .val (.int lo), .val (.ref b1), .val (.ref b7), .val (.int w_46), .val (.int ng), .val (.int dd), .val (.long yu), .second, .val (.int ce), .unset, .unset] [(.int (1 : Int32)), (.int dd), (.ref b7), (.long yu)]))
      refine own_st (fun _ k => XS.isub X60.here hx rfl (hb hby at_235) rfl k) ?_
      show own_Gl _ _ _ _ _ _ _ (T60.setTop (mkF m 236 #[.val (.long q1), .second, .val (.int p2), .val (.int lo), .val (.ref b1), .val (.ref b7), .val (.int w_46), .val (.int ng), .val (.int dd), .val (.long yu), .second, .val (.int ce), .unset, .unset] [(.int (dd - (1 : Int32))), (.ref b7), (.long yu)]))
      obtain ⟨cl98, Ar98, qq98, Ss98, Nn98, Hh98, Gg98⟩ := id f59
      have hin98 : ¬ ((dd - (1 : Int32)) < 0 ∨ cl98.slots.size ≤ ((dd - (1 : Int32))).toNatClampNeg) := inb_of Ss98 (own_inI (own_subI hdd (by decide : (1 : Int32).toInt = ((1 : Nat) : Int)) (by omega)) (by decide : (18 : Int32).toInt = ((18 : Nat) : Int)) (by omega))
      have hat98 : cl98.slots[((dd - (1 : Int32))).toNatClampNeg]? = some (.long (Int64.ofNat (10 ^ (dn_46 - 1)))) := Hh98.at hin98 ((by rw [own_natI (own_subI hdd (by decide : (1 : Int32).toInt = ((1 : Nat) : Int)) (by omega))]; exact own_pl _ (by omega)))
      refine own_st (X60.laload hx (j := (dd - (1 : Int32))) (v := (.long (Int64.ofNat (10 ^ (dn_46 - 1))))) (by rw [e60]; exact Ar98.1) (State.isArrayOf_alike hZ.alike Ar98.2.1) Ar98.2.2 hin98 hat98 (g := (mkF m 236 #[.val (.long q1), .second, .val (.int p2), .val (.int lo), .val (.ref b1), .val (.ref b7), .val (.int w_46), .val (.int ng), .val (.int dd), .val (.long yu), .second, .val (.int ce), .unset, .unset] [(.int (dd - (1 : Int32))), (.ref b7), (.long yu)])) rfl rfl (hb hby at_236)) ?_
      show own_Gl _ _ _ _ _ _ _ (T60.setTop (mkF m 237 #[.val (.long q1), .second, .val (.int p2), .val (.int lo), .val (.ref b1), .val (.ref b7), .val (.int w_46), .val (.int ng), .val (.int dd), .val (.long yu), .second, .val (.int ce), .unset, .unset] [(.long (Int64.ofNat (10 ^ (dn_46 - 1)))), (.long yu)]))
      refine own_st (fun _ k => XS.lcmp X60.here hx rfl (hb hby at_237) rfl k) ?_
      show own_Gl _ _ _ _ _ _ _ (T60.setTop (mkF m 238 #[.val (.long q1), .second, .val (.int p2), .val (.int lo), .val (.ref b1), .val (.ref b7), .val (.int w_46), .val (.int ng), .val (.int dd), .val (.long yu), .second, .val (.int ce), .unset, .unset] [(.int (lcmpW yu (Int64.ofNat (10 ^ (dn_46 - 1)))))]))
      have hd99 : ¬ (yu < (Int64.ofNat (10 ^ (dn_46 - 1)))) := fun z => absurd ((own_ltJ hy (own_10 _ (by omega))).mp z) (Nat.not_lt.mpr (hd4.resolve_left (by have q := (own_ltI (by decide : (1 : Int32).toInt = ((1 : Nat) : Int)) hdd).mp hc225; omega)))
      refine own_st (fun _ k => XS.ifYes X60.here hx rfl (pc0 := 238) (pc' := 243) rfl (hb hby at_238) rfl ((if0 _ _).trans (flt (mt (lw_lt _ _).mp hd99)).2.1) (by decide) (by decide) k) ?_
      show own_Gl _ _ _ _ _ _ _ (T60.setTop (mkF m 243 #[.val (.long q1), .second, .val (.int p2), .val (.int lo), .val (.ref b1), .val (.ref b7), .val (.int w_46), .val (.int ng), .val (.int dd), .val (.long yu), .second, .val (.int ce), .unset, .unset] []))
      show own_Gl _ _ _ _ _ _ _ (T60.setTop (mkF m 243 #[.val (.long q1), .second, .val (.int p2), .val (.int lo), .val (.ref b1), .val (.ref b7), .val (.int w_46), .val (.int ng), .val (.int dd), .val (.long yu), .second, .val (.int ce), .unset, .unset] []))
      exact J243_63 T60 _ N60 X60 e60
    · refine own_st (fun _ k => XS.icmpYes X60.here hx rfl (pc0 := 225) (pc' := 243) rfl (hb hby at_225) rfl (flt hc225).2.2.2 (by decide) (by decide) k) ?_
      show own_Gl _ _ _ _ _ _ _ (T60.setTop (mkF m 243 #[.val (.long q1), .second, .val (.int p2), .val (.int lo), .val (.ref b1), .val (.ref b7), .val (.int w_46), .val (.int ng), .val (.int dd), .val (.long yu), .second, .val (.int ce), .unset, .unset] []))
      show own_Gl _ _ _ _ _ _ _ (T60.setTop (mkF m 243 #[.val (.long q1), .second, .val (.int p2), .val (.int lo), .val (.ref b1), .val (.ref b7), .val (.int w_46), .val (.int ng), .val (.int dd), .val (.long yu), .second, .val (.int ce), .unset, .unset] []))
      exact J243_63 T60 _ N60 X60 e60
  refine own_st (fun _ k => XS.lloadN X46.here hx rfl (hb hby at_143) rfl k) ?_
  show own_Gl _ _ _ _ _ _ _ (T46.setTop (mkF m 144 #[.val (.long q1), .second, .val (.int p2), .val (.int lo), .val (.ref b1), .val (.ref b7), .val (.int w_46), .unset, .unset, .unset, .unset, .unset, .unset, .unset] [(.long q1)]))
  refine own_st (fun _ k => XS.lconst X46.here hx rfl (hb hby at_144) k) ?_
  show own_Gl _ _ _ _ _ _ _ (T46.setTop (mkF m 145 #[.val (.long q1), .second, .val (.int p2), .val (.int lo), .val (.ref b1), .val (.ref b7), .val (.int w_46), .unset, .unset, .unset, .unset, .unset, .unset, .unset] [(.long (0 : Int64)), (.long q1)]))
  refine own_st (fun _ k => XS.lcmp X46.here hx rfl (hb hby at_145) rfl k) ?_
  show own_Gl _ _ _ _ _ _ _ (T46.setTop (mkF m 146 #[.val (.long q1), .second, .val (.int p2), .val (.int lo), .val (.ref b1), .val (.ref b7), .val (.int w_46), .unset, .unset, .unset, .unset, .unset, .unset, .unset] [(.int (lcmpW q1 (0 : Int64)))]))
  by_cases hc146 : q1 < (0 : Int64)
  · refine own_st (fun _ k => XS.ifNo X46.here hx rfl (hb hby at_146) rfl ((if0 _ _).trans (tlt ((lw_lt _ _).mpr hc146)).2.1) k) ?_
    show own_Gl _ _ _ _ _ _ _ (T46.setTop (mkF m 149 #[.val (.long q1), .second, .val (.int p2), .val (.int lo), .val (.ref b1), .val (.ref b7), .val (.int w_46), .unset, .unset, .unset, .unset, .unset, .unset, .unset] []))
    refine own_st (fun _ k => XS.iconst X46.here hx rfl (hb hby at_149) k) ?_
    show own_Gl _ _ _ _ _ _ _ (T46.setTop (mkF m 150 #[.val (.long q1), .second, .val (.int p2), .val (.int lo), .val (.ref b1), .val (.ref b7), .val (.int w_46), .unset, .unset, .unset, .unset, .unset, .unset, .unset] [(.int (1 : Int32))]))
    refine own_st (fun _ k => XS.goto X46.here hx rfl (pc0 := 150) (pc' := 154) rfl (hb hby at_150) (by decide) (by decide) k) ?_
    show own_Gl _ _ _ _ _ _ _ (T46.setTop (mkF m 154 #[.val (.long q1), .second, .val (.int p2), .val (.int lo), .val (.ref b1), .val (.ref b7), .val (.int w_46), .unset, .unset, .unset, .unset, .unset, .unset, .unset] [(.int (1 : Int32))]))
    refine own_st (fun _ k => XS.istore X46.here hx rfl (hb hby at_154) rfl (l' := #[.val (.long q1), .second, .val (.int p2), .val (.int lo), .val (.ref b1), .val (.ref b7), .val (.int w_46), .val (.int (1 : Int32)), .unset, .unset, .unset, .unset, .unset, .unset]) rfl k) ?_
    show own_Gl _ _ _ _ _ _ _ (T46.setTop (mkF m 156 #[.val (.long q1), .second, .val (.int p2), .val (.int lo), .val (.ref b1), .val (.ref b7), .val (.int w_46), .val (.int (1 : Int32)), .unset, .unset, .unset, .unset, .unset, .unset] []))
    refine own_st (fun _ k => XS.iload X46.here hx rfl (hb hby at_156) rfl k) ?_
    show own_Gl _ _ _ _ _ _ _ (T46.setTop (mkF m 158 #[.val (.long q1), .second, .val (.int p2), .val (.int lo), .val (.ref b1), .val (.ref b7), .val (.int w_46), .val (.int (1 : Int32)), .unset, .unset, .unset, .unset, .unset, .unset] [(.int w_46)]))
    refine own_st (fun _ k => XS.iconst X46.here hx rfl (hb hby at_158) k) ?_
    show own_Gl _ _ _ _ _ _ _ (T46.setTop (mkF m 159 #[.val (.long q1), .second, .val (.int p2), .val (.int lo), .val (.ref b1), .val (.ref b7), .val (.int w_46), .val (.int (1 : Int32)), .unset, .unset, .unset, .unset, .unset, .unset] [(.int (3 : Int32)), (.int w_46)]))
    refine own_st (fun _ k => XS.isub X46.here hx rfl (hb hby at_159) rfl k) ?_
    show own_Gl _ _ _ _ _ _ _ (T46.setTop (mkF m 160 #[.val (.long q1), .second, .val (.int p2), .val (.int lo), .val (.ref b1), .val (.ref b7), .val (.int w_46), .val (.int (1 : Int32)), .unset, .unset, .unset, .unset, .unset, .unset] [(.int (w_46 - (3 : Int32)))]))
    refine own_st (fun _ k => XS.iload X46.here hx rfl (hb hby at_160) rfl k) ?_
    show own_Gl _ _ _ _ _ _ _ (T46.setTop (mkF m 162 #[.val (.long q1), .second, .val (.int p2), .val (.int lo), .val (.ref b1), .val (.ref b7), .val (.int w_46), .val (.int (1 : Int32)), .unset, .unset, .unset, .unset, .unset, .unset] [(.int (1 : Int32)), (.int (w_46 - (3 : Int32)))]))
    have hd100 : ¬ ((1 : Int32) = (0 : Int32)) := (by decide)
    refine own_st (fun _ k => XS.ifNo X46.here hx rfl (hb hby at_162) rfl ((if0 _ _).trans (feq hd100).1) k) ?_
    show own_Gl _ _ _ _ _ _ _ (T46.setTop (mkF m 165 #[.val (.long q1), .second, .val (.int p2), .val (.int lo), .val (.ref b1), .val (.ref b7), .val (.int w_46), .val (.int (1 : Int32)), .unset, .unset, .unset, .unset, .unset, .unset] [(.int (w_46 - (3 : Int32)))]))
    refine own_st (fun _ k => XS.iconst X46.here hx rfl (hb hby at_165) k) ?_
    show own_Gl _ _ _ _ _ _ _ (T46.setTop (mkF m 166 #[.val (.long q1), .second, .val (.int p2), .val (.int lo), .val (.ref b1), .val (.ref b7), .val (.int w_46), .val (.int (1 : Int32)), .unset, .unset, .unset, .unset, .unset, .unset] [(.int (1 : Int32)), (.int (w_46 - (3 : Int32)))]))
    refine own_st (fun _ k => XS.goto X46.here hx rfl (pc0 := 166) (pc' := 170) rfl (hb hby at_166) (by decide) (by decide) k) ?_
    show own_Gl _ _ _ _ _ _ _ (T46.setTop (mkF m 170 #[.val (.long q1), .second, .val (.int p2), .val (.int lo), .val (.ref b1), .val (.ref b7), .val (.int w_46), .val (.int (1 : Int32)), .unset, .unset, .unset, .unset, .unset, .unset] [(.int (1 : Int32)), (.int (w_46 - (3 : Int32)))]))
    refine own_st (fun _ k => XS.isub X46.here hx rfl (hb hby at_170) rfl k) ?_
    show own_Gl _ _ _ _ _ _ _ (T46.setTop (mkF m 171 #[.val (.long q1), .second, .val (.int p2), .val (.int lo), .val (.ref b1), .val (.ref b7), .val (.int w_46), .val (.int (1 : Int32)), .unset, .unset, .unset, .unset, .unset, .unset] [(.int ((w_46 - (3 : Int32)) - (1 : Int32)))]))
    refine own_st (fun _ k => XS.istore X46.here hx rfl (hb hby at_171) rfl (l' := #[.val (.long q1), .second, .val (.int p2), .val (.int lo), .val (.ref b1), .val (.ref b7), .val (.int w_46), .val (.int (1 : Int32)), .val (.int ((w_46 - (3 : Int32)) - (1 : Int32))), .unset, .unset, .unset, .unset, .unset]) rfl k) ?_
    show own_Gl _ _ _ _ _ _ _ (T46.setTop (mkF m 173 #[.val (.long q1), .second, .val (.int p2), .val (.int lo), .val (.ref b1), .val (.ref b7), .val (.int w_46), .val (.int (1 : Int32)), .val (.int ((w_46 - (3 : Int32)) - (1 : Int32))), .unset, .unset, .unset, .unset, .unset] []))
    show own_Gl _ _ _ _ _ _ _ (T46.setTop (mkF m 173 #[.val (.long q1), .second, .val (.int p2), .val (.int lo), .val (.ref b1), .val (.ref b7), .val (.int w_46), .val (.int (1 : Int32)), .val (.int ((w_46 - (3 : Int32)) - (1 : Int32))), .unset, .unset, .unset, .unset, .unset] []))
    exact J173_53 T46 _ N46 X46 eh046 ((1 : Int32)) (((w_46 - (3 : Int32)) - (1 : Int32))) (by have z := hN.1 hc146; rw [own_subI (own_subI hwv hlit3 (by omega)) (by decide : (1 : Int32).toInt = ((1 : Nat) : Int)) (by omega)]; omega)
  · refine own_st (fun _ k => XS.ifYes X46.here hx rfl (pc0 := 146) (pc' := 153) rfl (hb hby at_146) rfl ((if0 _ _).trans (flt (mt (lw_lt _ _).mp hc146)).2.1) (by decide) (by decide) k) ?_
    show own_Gl _ _ _ _ _ _ _ (T46.setTop (mkF m 153 #[.val (.long q1), .second, .val (.int p2), .val (.int lo), .val (.ref b1), .val (.ref b7), .val (.int w_46), .unset, .unset, .unset, .unset, .unset, .unset, .unset] []))
    refine own_st (fun _ k => XS.iconst X46.here hx rfl (hb hby at_153) k) ?_
    show own_Gl _ _ _ _ _ _ _ (T46.setTop (mkF m 154 #[.val (.long q1), .second, .val (.int p2), .val (.int lo), .val (.ref b1), .val (.ref b7), .val (.int w_46), .unset, .unset, .unset, .unset, .unset, .unset, .unset] [(.int (0 : Int32))]))
    refine own_st (fun _ k => XS.istore X46.here hx rfl (hb hby at_154) rfl (l' := #[.val (.long q1), .second, .val (.int p2), .val (.int lo), .val (.ref b1), .val (.ref b7), .val (.int w_46), .val (.int (0 : Int32)), .unset, .unset, .unset, .unset, .unset, .unset]) rfl k) ?_
    show own_Gl _ _ _ _ _ _ _ (T46.setTop (mkF m 156 #[.val (.long q1), .second, .val (.int p2), .val (.int lo), .val (.ref b1), .val (.ref b7), .val (.int w_46), .val (.int (0 : Int32)), .unset, .unset, .unset, .unset, .unset, .unset] []))
    refine own_st (fun _ k => XS.iload X46.here hx rfl (hb hby at_156) rfl k) ?_
    show own_Gl _ _ _ _ _ _ _ (T46.setTop (mkF m 158 #[.val (.long q1), .second, .val (.int p2), .val (.int lo), .val (.ref b1), .val (.ref b7), .val (.int w_46), .val (.int (0 : Int32)), .unset, .unset, .unset, .unset, .unset, .unset] [(.int w_46)]))
    refine own_st (fun _ k => XS.iconst X46.here hx rfl (hb hby at_158) k) ?_
    show own_Gl _ _ _ _ _ _ _ (T46.setTop (mkF m 159 #[.val (.long q1), .second, .val (.int p2), .val (.int lo), .val (.ref b1), .val (.ref b7), .val (.int w_46), .val (.int (0 : Int32)), .unset, .unset, .unset, .unset, .unset, .unset] [(.int (3 : Int32)), (.int w_46)]))
    refine own_st (fun _ k => XS.isub X46.here hx rfl (hb hby at_159) rfl k) ?_
    show own_Gl _ _ _ _ _ _ _ (T46.setTop (mkF m 160 #[.val (.long q1), .second, .val (.int p2), .val (.int lo), .val (.ref b1), .val (.ref b7), .val (.int w_46), .val (.int (0 : Int32)), .unset, .unset, .unset, .unset, .unset, .unset] [(.int (w_46 - (3 : Int32)))]))
    refine own_st (fun _ k => XS.iload X46.here hx rfl (hb hby at_160) rfl k) ?_
    show own_Gl _ _ _ _ _ _ _ (T46.setTop (mkF m 162 #[.val (.long q1), .second, .val (.int p2), .val (.int lo), .val (.ref b1), .val (.ref b7), .val (.int w_46), .val (.int (0 : Int32)), .unset, .unset, .unset, .unset, .unset, .unset] [(.int (0 : Int32)), (.int (w_46 - (3 : Int32)))]))
    have hd101 : (0 : Int32) = (0 : Int32) := (by decide)
    refine own_st (fun _ k => XS.ifYes X46.here hx rfl (pc0 := 162) (pc' := 169) rfl (hb hby at_162) rfl ((if0 _ _).trans (teq hd101).1) (by decide) (by decide) k) ?_
    show own_Gl _ _ _ _ _ _ _ (T46.setTop (mkF m 169 #[.val (.long q1), .second, .val (.int p2), .val (.int lo), .val (.ref b1), .val (.ref b7), .val (.int w_46), .val (.int (0 : Int32)), .unset, .unset, .unset, .unset, .unset, .unset] [(.int (w_46 - (3 : Int32)))]))
    refine own_st (fun _ k => XS.iconst X46.here hx rfl (hb hby at_169) k) ?_
    show own_Gl _ _ _ _ _ _ _ (T46.setTop (mkF m 170 #[.val (.long q1), .second, .val (.int p2), .val (.int lo), .val (.ref b1), .val (.ref b7), .val (.int w_46), .val (.int (0 : Int32)), .unset, .unset, .unset, .unset, .unset, .unset] [(.int (0 : Int32)), (.int (w_46 - (3 : Int32)))]))
    refine own_st (fun _ k => XS.isub X46.here hx rfl (hb hby at_170) rfl k) ?_
    show own_Gl _ _ _ _ _ _ _ (T46.setTop (mkF m 171 #[.val (.long q1), .second, .val (.int p2), .val (.int lo), .val (.ref b1), .val (.ref b7), .val (.int w_46), .val (.int (0 : Int32)), .unset, .unset, .unset, .unset, .unset, .unset] [(.int ((w_46 - (3 : Int32)) - (0 : Int32)))]))
    refine own_st (fun _ k => XS.istore X46.here hx rfl (hb hby at_171) rfl (l' := #[.val (.long q1), .second, .val (.int p2), .val (.int lo), .val (.ref b1), .val (.ref b7), .val (.int w_46), .val (.int (0 : Int32)), .val (.int ((w_46 - (3 : Int32)) - (0 : Int32))), .unset, .unset, .unset, .unset, .unset]) rfl k) ?_
    show own_Gl _ _ _ _ _ _ _ (T46.setTop (mkF m 173 #[.val (.long q1), .second, .val (.int p2), .val (.int lo), .val (.ref b1), .val (.ref b7), .val (.int w_46), .val (.int (0 : Int32)), .val (.int ((w_46 - (3 : Int32)) - (0 : Int32))), .unset, .unset, .unset, .unset, .unset] []))
    show own_Gl _ _ _ _ _ _ _ (T46.setTop (mkF m 173 #[.val (.long q1), .second, .val (.int p2), .val (.int lo), .val (.ref b1), .val (.ref b7), .val (.int w_46), .val (.int (0 : Int32)), .val (.int ((w_46 - (3 : Int32)) - (0 : Int32))), .unset, .unset, .unset, .unset, .unset] []))
    exact J173_53 T46 _ N46 X46 eh046 ((0 : Int32)) (((w_46 - (3 : Int32)) - (0 : Int32))) (by have z := hN.2 hc146; rw [own_subI (own_subI hwv hlit3 (by omega)) (by decide : (0 : Int32).toInt = ((0 : Nat) : Int)) (by omega)]; omega)

section Nar
variable {args : Array Value} {s : State} {t : Term} {cl : Cell} {a : Addr} {i : Nat}
theorem own_orR {c d : Jvm.Cond} {idx : List Nat} (h : (Jvm.Cond.or c d).value args s none s idx = some true) (hc : c.value args s none s idx = some false) : d.value args s none s idx = some true := by
  rwa [Cond.or_of_right (by rw [hc])] at h
theorem own_ixv (hi : i < 100) : (Term.index 0).eval args s none [i] s = some (.int i.toInt32) ∧ i.toInt32.toInt = (i : Int) := ⟨Term.index_eval _, len_toInt (by omega)⟩
theorem own_skL {K : Int32} {k : Nat} (hk : K.toInt = (k : Int)) (hi : i < 100) (h : i < k) {d : Jvm.Cond} (q : (Jvm.Cond.or (.le (.int K) (.index 0)) d).value args s none s [i] = some true) : d.value args s none s [i] = some true := by
  obtain ⟨e1, e2⟩ := own_ixv (args := args) (s := s) hi
  refine own_orR q (nay (Cond.le_ints (Term.int_eval K) e1) ?_)
  rw [Int32.le_iff_toInt_le]; omega
theorem own_skG {K : Int32} {k : Nat} (hk : K.toInt = (k : Int)) (hi : i < 100) (h : k ≤ i) {d : Jvm.Cond} (q : (Jvm.Cond.or (.lt (.index 0) (.int K)) d).value args s none s [i] = some true) : d.value args s none s [i] = some true := by
  obtain ⟨e1, e2⟩ := own_ixv (args := args) (s := s) hi
  refine own_orR q (nay (Cond.lt_ints e1 (Term.int_eval K)) ?_)
  rw [Int32.lt_iff_toInt_lt]; omega
/-- the array's place, read -/
theorem own_elv (ht : t.eval args s none [i] s = some (.ref a)) (hat : s.arrayAt? a = some cl) (hi : i < 100) : (Term.elem t (.index 0)).eval args s none [i] s = cl.slots[i]? := by
  obtain ⟨e1, e2⟩ := own_ixv (args := args) (s := s) hi
  have e0 : (0 : Int32).toInt = 0 := by decide
  have hn : ¬ i.toInt32 < 0 := by rw [Int32.lt_iff_toInt_lt]; omega
  have en : i.toInt32.toNatClampNeg = i := by have := nat_of hn; omega
  rw [elem_f ht e1 hat hn, en]
theorem own_eqA {k : Int64} {n : Nat} (hk : k.toInt = (n : Int)) {x : Int32} (ht : t.eval args s none [i] s = some (.ref a)) (hat : s.arrayAt? a = some cl) (hi : i < 100) (hn : n < 1000) (hx : cl.slots[i]? = some (.int x))
    (q : (Jvm.Cond.eq (.op1 .i2l (.elem t (.index 0))) (.op2 .ladd (.op1 .i2l (.index 0)) (.long k))).value args s none s [i] = some true) : x.toInt = ((i + n : Nat) : Int) := by
  obtain ⟨e1, e2⟩ := own_ixv (args := args) (s := s) hi
  have l1 : (Term.op1 .i2l (.elem t (.index 0))).eval args s none [i] s = some (.long x.toInt64) := by rw [op1_f ((own_elv ht hat hi).trans hx)]; rfl
  have l2 : (Term.op2 .ladd (.op1 .i2l (.index 0)) (.long k)).eval args s none [i] s = some (.long (i.toInt32.toInt64 + k)) := by
    rw [op2_f (x := .long i.toInt32.toInt64) (y := .long k) (by rw [op1_f e1]; rfl) rfl]; rfl
  have w := gotT (eq_L l1 l2) q
  have w2 := congrArg Int64.toInt w
  rw [c_i2l] at w2
  have c := c_ladd i.toInt32.toInt64 k
  have c2 := c_i2l i.toInt32
  have r := rng64 (i.toInt32.toInt64 + k)
  omega
theorem own_eqB {K : Int32} {n : Nat} (hk : K.toInt = (n : Int)) {x : Int32} (ht : t.eval args s none [i] s = some (.ref a)) (hat : s.arrayAt? a = some cl) (hi : i < 100) (hn : n ≤ i) (hx : cl.slots[i]? = some (.int x))
    (q : (Jvm.Cond.eq (.elem t (.index 0)) (.sub (.index 0) (.int K))).value args s none s [i] = some true) : x.toInt = ((i - n : Nat) : Int) := by
  obtain ⟨e1, e2⟩ := own_ixv (args := args) (s := s) hi
  have l1 := (own_elv ht hat hi).trans hx
  have l2 : (Term.sub (.index 0) (.int K)).eval args s none [i] s = some (.int (i.toInt32 - K)) := by
    simp [Term.eval]
  have w := gotT (Cond.eq_ints l1 l2) q
  have c := c_isub i.toInt32 K
  have r := rng32 (i.toInt32 - K)
  rw [w]
  omega
theorem own_eqC {K : Int32} {x : Int32} (ht : t.eval args s none [i] s = some (.ref a)) (hat : s.arrayAt? a = some cl) (hi : i < 100) (hx : cl.slots[i]? = some (.int x))
    (q : (Jvm.Cond.eq (.elem t (.index 0)) (.int K)).value args s none s [i] = some true) : x.toInt = K.toInt := by
  have w := gotT (Cond.eq_ints ((own_elv ht hat hi).trans hx) (Term.int_eval K)) q
  rw [w]
end Nar


theorem own_100 {n : Nat} (h : n < 2 ^ 31) (e : n.toInt32 = (100 : Int32)) : n = (100 : Int32).toNatClampNeg := by
  have q := len_toInt h
  rw [e] at q
  have e4 : (100 : Int32).toInt = 100 := by decide
  have e5 : (100 : Int32).toNatClampNeg = 100 := by decide
  omega
theorem own_slotI {s : State} {a : Addr} {cl : Cell} {i : Nat} (hf : Fit s) (A : Arr s s.heap a cl .char) (q : cl.slots.size < 2 ^ 31) (e : cl.slots.size.toInt32 = (100 : Int32)) (hi : i < 100) : ∃ x, cl.slots[i]? = some (.int x) := by
  have T := Tab.start hf A (Or.inr (Or.inr (Or.inr (Or.inl rfl)))) q e (by decide)
  obtain ⟨-, h1, -, h2⟩ := T
  have e2 : i.toInt32.toInt = (i : Int) := len_toInt (by omega)
  have e0 : (0 : Int32).toInt = 0 := by decide
  have hn : ¬ i.toInt32 < 0 := by rw [Int32.lt_iff_toInt_lt]; omega
  have en : i.toInt32.toNatClampNeg = i := by have := nat_of hn; omega
  have e5 : (100 : Int32).toNatClampNeg = 100 := by decide
  have z := h2 i.toInt32 (by rw [h1, en, e5]; rintro (y | y); exact hn y; omega)
  rw [en] at z
  exact ⟨_, z⟩

set_option maxRecDepth 65536 in
set_option maxHeartbeats 40000000 in
theorem comes_1 {Post : Tables → Env → Array Value → State → Outcome → State → Prop} (hpost : ∀ tb e args s v u, (limb_1_1.after args s (.returned v) u = true ∧ limb_1_2.after args s (.returned v) u = true ∧ True) → FrameEnd s (.returned v) u (Jvm.fieldLocs frame_1_writes args s ++ Jvm.arrayLocs frame_1_arrays args s ++ Jvm.staticLocs frame_1_statics s) 16 192 → Post tb e args s (.returned v) u) :
    ArmFor flags0 classFile x code maxLocals ret World_1 tables_1 room_1 Calls_1 rest_1 Pre_1 Post := by
  intro l hfl _ _ p e ha hc hk s m args below hf hA hF happ hP
  obtain ⟨hcalls, hrest, hpre⟩ := hP
  obtain ⟨-, -, -, hnamed, -, -, -, hat⟩ := (Spec.applies_iff hf).mp happ
  obtain ⟨hg, hn⟩ := and_e (Cond.before_iff.mp (show (Jvm.Cond.and given_1 narrow_1).before args s = true from hpre))
  obtain ⟨gg1, gg2⟩ := and_e hg
  obtain ⟨gg3, gg4⟩ := and_e gg2
  obtain ⟨w0, w1, rfl⟩ : ∃ w0 w1 : Value, args = #[w0, w1] := by
    have hs : args.size = 2 := by simpa [Cond.value, given_1] using gg1
    obtain ⟨L⟩ := args
    match L, hs with
    | [w0, w1], _ => exact ⟨w0, w1, rfl⟩
  have hw := fun d (hd : d ∈ tables_1) => atoms_spec (ws := Jvm.Cond.code x code maxLocals ret :: tables_1) hat d (List.mem_cons_of_mem _ hd)
  have hfit : Fit s := fun {y c} hc i hi => by
    obtain ⟨ha, rfl⟩ := Array.getElem?_eq_some_iff.mp hc
    have q := List.all_eq_true.mp ((Array.all_eq_true_iff_forall_mem.mp hF) _ (Array.getElem_mem ha)) i (List.mem_range.mpr hi)
    simpa [Array.getElem?_eq_getElem hi] using q
  obtain ⟨i0, ei0⟩ := isL_v gg3
  obtain rfl : w0 = (.long i0) := Option.some.inj ei0
  obtain ⟨i1, ei1⟩ := is_v gg4
  obtain rfl : w1 = (.int i1) := Option.some.inj ei1
  obtain ⟨nn1, nn2⟩ := and_e hn
  obtain ⟨nn3, nn4⟩ := and_e nn2
  obtain ⟨nn5, nn6⟩ := and_e nn4
  obtain ⟨nn7, nn8⟩ := and_e nn6
  obtain ⟨nn9, nn10⟩ := and_e nn8
  obtain ⟨nn11, nn12⟩ := and_e nn10
  obtain ⟨nn13, nn14⟩ := and_e nn12
  obtain ⟨nn15, nn16⟩ := and_e nn14
  obtain ⟨nn17, nn18⟩ := and_e nn16
  obtain ⟨nn19, nn20⟩ := and_e nn18
  obtain ⟨nn21, nn22⟩ := and_e nn20
  obtain ⟨nn23, nn24⟩ := and_e nn22
  obtain ⟨nn25, nn26⟩ := and_e nn24
  obtain ⟨nn27, nn28⟩ := and_e nn26
  obtain ⟨nn29, nn30⟩ := and_e nn28
  obtain ⟨nn31, nn32⟩ := and_e nn30
  obtain ⟨nn33, nn34⟩ := and_e nn32
  obtain ⟨nn35, nn36⟩ := and_e nn34
  obtain ⟨nn37, nn38⟩ := and_e nn36
  obtain ⟨nn39, nn40⟩ := and_e nn38
  obtain ⟨nn41, nn42⟩ := and_e nn40
  obtain ⟨nn43, nn44⟩ := and_e nn42
  obtain ⟨nn45, nn46⟩ := and_e nn44
  obtain ⟨oa, ev_o⟩ := arr_v nn1
  obtain ⟨ocl, xarr_o⟩ := Arr.start ev_o nn1
  have xs_o := Sta.start ev_o (Or.inr ⟨(hw _ (List.mem_of_getElem? (i := 21) rfl)), (hw _ (List.mem_of_getElem? (i := 29) rfl))⟩)
  obtain ⟨osz, olen⟩ := Jvm.Free.IntBox.length_fwd (Cond.before_iff.mpr nn3) ev_o xarr_o.1 xarr_o.2.1 xarr_o.2.2
  have o100 := own_100 osz olen
  have ohat := Jvm.Free.IntBox.arrayAt_of xarr_o.1 xarr_o.2.1 xarr_o.2.2
  obtain ⟨ta, ev_t⟩ := arr_v nn5
  obtain ⟨tcl, xarr_t⟩ := Arr.start ev_t nn5
  have xs_t := Sta.start ev_t (Or.inr ⟨(hw _ (List.mem_of_getElem? (i := 21) rfl)), (hw _ (List.mem_of_getElem? (i := 31) rfl))⟩)
  obtain ⟨tsz, tlen⟩ := Jvm.Free.IntBox.length_fwd (Cond.before_iff.mpr nn7) ev_t xarr_t.1 xarr_t.2.1 xarr_t.2.2
  have t100 := own_100 tsz tlen
  have that := Jvm.Free.IntBox.arrayAt_of xarr_t.1 xarr_t.2.1 xarr_t.2.2
  have ox : ∀ i, i < 100 → ocl.slots[i]? = some (.int (own_ones i)) := by
    intro i hi
    have hs : i < ocl.slots.size := by rw [o100]; exact hi
    obtain ⟨x, hx⟩ := own_slotI hfit xarr_o osz olen hi
    have key : x.toInt = ((48 + i % 10 : Nat) : Int) := by
      rcases (by omega : i < 10 ∨ (10 ≤ i ∧ i < 20) ∨ (20 ≤ i ∧ i < 30) ∨ (30 ≤ i ∧ i < 40) ∨ (40 ≤ i ∧ i < 50) ∨ (50 ≤ i ∧ i < 60) ∨ (60 ≤ i ∧ i < 70) ∨ (70 ≤ i ∧ i < 80) ∨ (80 ≤ i ∧ i < 90) ∨ 90 ≤ i) with h | h | h | h | h | h | h | h | h | h
      · have q := own_skL (k := 10) (by decide) hi h (Cond.all_elim ev_o ohat nn9 i hs)
        have z := own_eqA (n := 48) (by decide) ev_o ohat hi (by decide) hx q
        omega
      · have q := own_skL (k := 20) (by decide) hi h.2 (own_skG (k := 10) (by decide) hi h.1 (Cond.all_elim ev_o ohat nn11 i hs))
        have z := own_eqA (n := 38) (by decide) ev_o ohat hi (by decide) hx q
        omega
      · have q := own_skL (k := 30) (by decide) hi h.2 (own_skG (k := 20) (by decide) hi h.1 (Cond.all_elim ev_o ohat nn13 i hs))
        have z := own_eqA (n := 28) (by decide) ev_o ohat hi (by decide) hx q
        omega
      · have q := own_skL (k := 40) (by decide) hi h.2 (own_skG (k := 30) (by decide) hi h.1 (Cond.all_elim ev_o ohat nn15 i hs))
        have z := own_eqA (n := 18) (by decide) ev_o ohat hi (by decide) hx q
        omega
      · have q := own_skL (k := 50) (by decide) hi h.2 (own_skG (k := 40) (by decide) hi h.1 (Cond.all_elim ev_o ohat nn17 i hs))
        have z := own_eqA (n := 8) (by decide) ev_o ohat hi (by decide) hx q
        omega
      · have q := own_skL (k := 60) (by decide) hi h.2 (own_skG (k := 50) (by decide) hi h.1 (Cond.all_elim ev_o ohat nn19 i hs))
        have z := own_eqB (n := 2) (by decide) ev_o ohat hi (by omega) hx q
        omega
      · have q := own_skL (k := 70) (by decide) hi h.2 (own_skG (k := 60) (by decide) hi h.1 (Cond.all_elim ev_o ohat nn21 i hs))
        have z := own_eqB (n := 12) (by decide) ev_o ohat hi (by omega) hx q
        omega
      · have q := own_skL (k := 80) (by decide) hi h.2 (own_skG (k := 70) (by decide) hi h.1 (Cond.all_elim ev_o ohat nn23 i hs))
        have z := own_eqB (n := 22) (by decide) ev_o ohat hi (by omega) hx q
        omega
      · have q := own_skL (k := 90) (by decide) hi h.2 (own_skG (k := 80) (by decide) hi h.1 (Cond.all_elim ev_o ohat nn25 i hs))
        have z := own_eqB (n := 32) (by decide) ev_o ohat hi (by omega) hx q
        omega
      · have q := own_skG (k := 90) (by decide) hi h (Cond.all_elim ev_o ohat nn27 i hs)
        have z := own_eqB (n := 42) (by decide) ev_o ohat hi (by omega) hx q
        omega
    rw [hx, own_eqII key (own_ones_v i hi)]
  have tx : ∀ i, i < 100 → tcl.slots[i]? = some (.int (own_tens i)) := by
    intro i hi
    have hs : i < tcl.slots.size := by rw [t100]; exact hi
    obtain ⟨x, hx⟩ := own_slotI hfit xarr_t tsz tlen hi
    have key : x.toInt = ((48 + i / 10 : Nat) : Int) := by
      rcases (by omega : i < 10 ∨ (10 ≤ i ∧ i < 20) ∨ (20 ≤ i ∧ i < 30) ∨ (30 ≤ i ∧ i < 40) ∨ (40 ≤ i ∧ i < 50) ∨ (50 ≤ i ∧ i < 60) ∨ (60 ≤ i ∧ i < 70) ∨ (70 ≤ i ∧ i < 80) ∨ (80 ≤ i ∧ i < 90) ∨ 90 ≤ i) with h | h | h | h | h | h | h | h | h | h
      · have q := own_skL (k := 10) (by decide) hi h (Cond.all_elim ev_t that nn29 i hs)
        have z := own_eqC ev_t that hi hx q
        have e9 : (48 : Int32).toInt = 48 := by decide
        rw [e9] at z
        omega
      · have q := own_skL (k := 20) (by decide) hi h.2 (own_skG (k := 10) (by decide) hi h.1 (Cond.all_elim ev_t that nn31 i hs))
        have z := own_eqC ev_t that hi hx q
        have e9 : (49 : Int32).toInt = 49 := by decide
        rw [e9] at z
        omega
      · have q := own_skL (k := 30) (by decide) hi h.2 (own_skG (k := 20) (by decide) hi h.1 (Cond.all_elim ev_t that nn33 i hs))
        have z := own_eqC ev_t that hi hx q
        have e9 : (50 : Int32).toInt = 50 := by decide
        rw [e9] at z
        omega
      · have q := own_skL (k := 40) (by decide) hi h.2 (own_skG (k := 30) (by decide) hi h.1 (Cond.all_elim ev_t that nn35 i hs))
        have z := own_eqC ev_t that hi hx q
        have e9 : (51 : Int32).toInt = 51 := by decide
        rw [e9] at z
        omega
      · have q := own_skL (k := 50) (by decide) hi h.2 (own_skG (k := 40) (by decide) hi h.1 (Cond.all_elim ev_t that nn37 i hs))
        have z := own_eqC ev_t that hi hx q
        have e9 : (52 : Int32).toInt = 52 := by decide
        rw [e9] at z
        omega
      · have q := own_skL (k := 60) (by decide) hi h.2 (own_skG (k := 50) (by decide) hi h.1 (Cond.all_elim ev_t that nn39 i hs))
        have z := own_eqC ev_t that hi hx q
        have e9 : (53 : Int32).toInt = 53 := by decide
        rw [e9] at z
        omega
      · have q := own_skL (k := 70) (by decide) hi h.2 (own_skG (k := 60) (by decide) hi h.1 (Cond.all_elim ev_t that nn41 i hs))
        have z := own_eqC ev_t that hi hx q
        have e9 : (54 : Int32).toInt = 54 := by decide
        rw [e9] at z
        omega
      · have q := own_skL (k := 80) (by decide) hi h.2 (own_skG (k := 70) (by decide) hi h.1 (Cond.all_elim ev_t that nn43 i hs))
        have z := own_eqC ev_t that hi hx q
        have e9 : (55 : Int32).toInt = 55 := by decide
        rw [e9] at z
        omega
      · have q := own_skL (k := 90) (by decide) hi h.2 (own_skG (k := 80) (by decide) hi h.1 (Cond.all_elim ev_t that nn45 i hs))
        have z := own_eqC ev_t that hi hx q
        have e9 : (56 : Int32).toInt = 56 := by decide
        rw [e9] at z
        omega
      · have q := own_skG (k := 90) (by decide) hi h (Cond.all_elim ev_t that nn46 i hs)
        have z := own_eqC ev_t that hi hx q
        have e9 : (57 : Int32).toInt = 57 := by decide
        rw [e9] at z
        omega
    rw [hx, own_eqII key (own_tens_v i hi)]
  have xv_o : Arv s s.heap oa ocl.cls .char (100 : Int32) (own_fl 100 own_ones) (.int (0 : Int32)) := ⟨ocl, xarr_o, rfl, o100, by decide, fun k hk => by rw [o100] at hk; rw [ox k hk, own_fl_get 100 _ k _ (show k < 100 from hk)], fun i hi => by rw [o100] at hi; rw [own_fl_get 100 _ i _ (show i < 100 from hi)]; exact own_onef i hi⟩
  have xv_t : Arv s s.heap ta tcl.cls .char (100 : Int32) (own_fl 100 own_tens) (.int (0 : Int32)) := ⟨tcl, xarr_t, rfl, t100, by decide, fun k hk => by rw [t100] at hk; rw [tx k hk, own_fl_get 100 _ k _ (show k < 100 from hk)], fun i hi => by rw [t100] at hi; rw [own_fl_get 100 _ i _ (show i < 100 from hi)]; exact own_tenf i hi⟩
  obtain ⟨n, o, h1, h2, h3, _, L, rfl, ⟨rfl, N⟩, hq⟩ := own_law l s _ hw tables_1 i0 i1 oa ta ocl.cls tcl.cls s.heap s.heap.size (Nat.le_refl _) (Old.start s) xs_o xs_t xv_o xv_t p e ha hc hk s m _ below hf ((Spec.applies_iff_loose hf).mp happ).1 ⟨rfl, State.Warmed39.refl s, rfl⟩ trivial
  refine ⟨n, _, h1, h2, h3, hpost _ _ _ _ _ _ ⟨Cond.after_iff.mpr rfl, Cond.after_iff.mpr (eq_i res_at (Term.int_eval (1)) rfl), trivial⟩ ⟨hq.1, hq.2.1, (hq.2.2.sift fun y hy => Or.inr (N y hy)).mono (by decide) (by decide)⟩⟩
theorem main_1_1 : Claimed_1_1 := comes_1 fun _ _ _ _ _ _ h hF => ⟨h.1, hF⟩
theorem main_1_2 : Claimed_1_2 := comes_1 fun _ _ _ _ _ _ h hF => ⟨h.2.1, hF⟩

end Jvm.Pilot.@@N@@
namespace Jvm.Pilot.@@N@@
open Jvm Jvm.ClassFile Sem Op Lib Jvm.Free Jvm.Stand Jvm.Pilot.@@N@@.Jvm.D
/-! MADE BY PROGRAM (witnessworld.py) out of the Statement's table words and the real class files: 15 classes; the members and pool entries that the words name. The judged class is class 1, her method 3. -/
namespace start1
open Jvm.ClassFile
def u (s : String) : CpInfo := .utf8 (stringToUtf16 s)
/-- a pool by its gaps: so many unusable entries, then the entry; so many at the end -/
def gap : Nat → List CpInfo → List CpInfo
  | 0, r => r
  | n + 1, r => .unusable :: gap n r
def poolList (es : List (Nat × CpInfo)) (last : Nat) : List CpInfo := es.foldr (fun e r => gap e.1 (e.2 :: r)) (gap last [])
def pool (es : List (Nat × CpInfo)) (last : Nat) : Array CpInfo := ⟨poolList es last⟩
def fileOf (pool : Array CpInfo) (this : Nat) (attrs : Array Attribute := #[]) (ms : Array MethodInfo := #[]) (fl : Nat := 33) (sup : Nat := 0) (ifs : Array Nat := #[]) (fds : Array FieldInfo := #[]) : ClassFile where
  minorVersion := 0
  majorVersion := 65
  constantPool := pool
  accessFlags := fl
  thisClass := this
  superClass := sup
  interfaces := ifs
  fields := fds
  methods := ms
  attributes := attrs
def plain (name : String) (sup : Option ClassId) : Class where
  name := name
  kind := .ordinary
  loader := none
  accessFlags := 33
  super := sup
  interfaces := #[]
  cf := none
  fields := #[]
  methods := #[]
  instanceTypes := #[]
  staticTypes := #[]
  resolved := #[]
  callSites := []
  init := .initialized
  statics := none
  mirror := none

def pool0 : Array CpInfo := pool [(5, u "<init>"), (0, u "()V"), (1, .class_ 10), (1, u "java/lang/Object")] 113

def k0m0 : Method := { name := "<init>", desc := "()V", sig := { parameters := [], returnType := none }, accessFlags := 1, code := none }
/-- java/lang/Object -/
def k0 : Class := { plain "java/lang/Object" none with
  accessFlags := 33
  interfaces := #[]
  cf := some (fileOf pool0 8 #[] #[{ accessFlags := 1, nameIndex := 5, descriptorIndex := 6, attributes := #[] }] 33 0 #[] #[])
  fields := #[]
  methods := #[k0m0]
  instanceTypes := #[]
  staticTypes := #[]
  resolved := Array.replicate 124 none
  statics := none }

def pool1 : Array CpInfo := pool [(2, .class_ 4), (1, u "java/lang/Object"), (0, u "<init>"), (0, u "()V"), (0, .long 10), (1, .methodref 10 11), (0, .class_ 12), (0, .nameAndType 13 14), (0, u "org/benli/core/MoneyToCharsPinLaw"), (0, u "expect"), (0, u "(IIJI[J)C"), (0, .long 100), (1, .long 1000), (1, .long 10000), (1, .long 100000), (1, .long 1000000), (1, .long 10000000), (1, .long 100000000), (1, .long 1000000000), (1, .long 10000000000), (1, .long 100000000000), (1, .long 1000000000000), (1, .long 10000000000000), (1, .long 100000000000000), (1, .long 1000000000000000), (1, .long 10000000000000000), (1, .long 100000000000000000), (1, .methodref 48 49), (0, .class_ 50), (0, .nameAndType 51 52), (0, u "org/benli/core/Money"), (0, u "toChars"), (0, u "(J[CI)I"), (0, .methodref 54 55), (0, .class_ 56), (0, .nameAndType 57 58), (0, u "java/lang/Math"), (0, u "abs"), (0, u "(J)J"), (0, .methodref 10 60), (0, .nameAndType 61 62), (0, u "cell"), (0, u "([CIIIIJI[J)Z"), (3, u "law"), (0, u "(JI)Z")] 6

def k1m0 : Method := { name := "<init>", desc := "()V", sig := { parameters := [], returnType := none }, accessFlags := 1, code := none }
def k1c1 : Code := { maxStack := 6, maxLocals := 6, code := method_2_code, exceptionTable := #[], attributes := #[] }
def k1m1 : Method := { name := "expect", desc := "(IIJI[J)C", sig := { parameters := [.int, .int, .long, .int, (.array .long)], returnType := some .char }, accessFlags := 10, code := some k1c1 }
def k1c2 : Code := { maxStack := 7, maxLocals := 9, code := method_3_code, exceptionTable := #[], attributes := #[] }
def k1m2 : Method := { name := "cell", desc := "([CIIIIJI[J)Z", sig := { parameters := [(.array .char), .int, .int, .int, .int, .long, .int, (.array .long)], returnType := some .boolean }, accessFlags := 10, code := some k1c2 }
def k1c3 : Code := { maxStack := 10, maxLocals := 14, code := code, exceptionTable := #[], attributes := #[] }
def k1m3 : Method := { name := "law", desc := "(JI)Z", sig := { parameters := [.long, .int], returnType := some .boolean }, accessFlags := 9, code := some k1c3 }
/-- org/benli/core/MoneyToCharsPinLaw -/
def k1 : Class := { plain "org/benli/core/MoneyToCharsPinLaw" (some 0) with
  accessFlags := 49
  interfaces := #[]
  cf := some (fileOf pool1 10 #[] #[{ accessFlags := 1, nameIndex := 5, descriptorIndex := 6, attributes := #[] }, { accessFlags := 10, nameIndex := 13, descriptorIndex := 14, attributes := #[] }, { accessFlags := 10, nameIndex := 61, descriptorIndex := 62, attributes := #[] }, { accessFlags := 9, nameIndex := 66, descriptorIndex := 67, attributes := #[] }] 49 2 #[] #[])
  fields := #[]
  methods := #[k1m0, k1m1, k1m2, k1m3]
  instanceTypes := #[]
  staticTypes := #[]
  resolved := Array.replicate 74 none
  statics := none }

def pool2 : Array CpInfo := pool [(1, .class_ 2), (0, u "java/lang/Comparable"), (0, .class_ 4), (0, u "java/lang/Object")] 7

/-- java/lang/Comparable -/
def k2 : Class := { plain "java/lang/Comparable" (some 0) with
  accessFlags := 1537
  interfaces := #[]
  cf := some (fileOf pool2 1 #[] #[] 1537 3 #[] #[])
  fields := #[]
  methods := #[]
  instanceTypes := #[]
  staticTypes := #[]
  resolved := Array.replicate 12 none
  statics := none }

def pool3 : Array CpInfo := pool [(2, .class_ 4), (1, u "java/lang/Object"), (3, .class_ 10), (1, u "org/benli/core/Money"), (0, u "value"), (0, u "Ljava/math/BigDecimal;"), (49, u "DEFAULT_ROUNDING"), (0, u "Ljava/math/RoundingMode;"), (49, u "toChars"), (0, u "(J[CI)I"), (3, .long 100), (1, .methodref 8 121), (0, .nameAndType 122 123), (0, u "digits"), (0, u "(J)I"), (0, .fieldref 8 125), (0, .nameAndType 126 127), (0, u "ONES"), (0, u "[C"), (0, .fieldref 8 129), (0, .nameAndType 130 127), (0, u "TENS"), (2, .long 2147483647), (1, .long 48), (1, .long 10), (11, u "ZERO"), (2, u "Lorg/benli/core/Money;"), (0, .class_ 154), (0, u "java/lang/Comparable"), (0, u "SCALE"), (0, u "I"), (2, u "MAX_FEN_CHARS"), (1, u "FEN_PER_YUAN")] 35

def k3c0 : Code := { maxStack := 8, maxLocals := 12, code := prog_32_method_13_code, exceptionTable := #[], attributes := #[] }
def k3m0 : Method := { name := "toChars", desc := "(J[CI)I", sig := { parameters := [.long, (.array .char), .int], returnType := some .int }, accessFlags := 9, code := some k3c0 }
def k3c1 : Code := { maxStack := 4, maxLocals := 5, code := prog_32_method_14_code, exceptionTable := #[], attributes := #[] }
def k3m1 : Method := { name := "digits", desc := "(J)I", sig := { parameters := [.long], returnType := some .int }, accessFlags := 10, code := some k3c1 }
/-- org/benli/core/Money -/
def k3 : Class := { plain "org/benli/core/Money" (some 0) with
  accessFlags := 49
  interfaces := #[2]
  cf := some (fileOf pool3 8 #[] #[{ accessFlags := 9, nameIndex := 113, descriptorIndex := 114, attributes := #[] }, { accessFlags := 10, nameIndex := 122, descriptorIndex := 123, attributes := #[] }] 49 2 #[153] #[{ accessFlags := 25, nameIndex := 155, descriptorIndex := 156, attributes := #[] }, { accessFlags := 25, nameIndex := 62, descriptorIndex := 63, attributes := #[] }, { accessFlags := 25, nameIndex := 149, descriptorIndex := 152, attributes := #[] }, { accessFlags := 25, nameIndex := 159, descriptorIndex := 156, attributes := #[] }, { accessFlags := 26, nameIndex := 161, descriptorIndex := 156, attributes := #[] }, { accessFlags := 26, nameIndex := 130, descriptorIndex := 127, attributes := #[] }, { accessFlags := 26, nameIndex := 126, descriptorIndex := 127, attributes := #[] }, { accessFlags := 18, nameIndex := 11, descriptorIndex := 12, attributes := #[] }])
  fields := #[{ name := "SCALE", type := .int, accessFlags := 25, slot := 0, constantValue := 0 }, { name := "DEFAULT_ROUNDING", type := (.object "java/math/RoundingMode"), accessFlags := 25, slot := 1, constantValue := 0 }, { name := "ZERO", type := (.object "org/benli/core/Money"), accessFlags := 25, slot := 2, constantValue := 0 }, { name := "MAX_FEN_CHARS", type := .int, accessFlags := 25, slot := 3, constantValue := 0 }, { name := "FEN_PER_YUAN", type := .int, accessFlags := 26, slot := 4, constantValue := 0 }, { name := "TENS", type := (.array .char), accessFlags := 26, slot := 5, constantValue := 0 }, { name := "ONES", type := (.array .char), accessFlags := 26, slot := 6, constantValue := 0 }, { name := "value", type := (.object "java/math/BigDecimal"), accessFlags := 18, slot := 0, constantValue := 0 }]
  methods := #[k3m0, k3m1]
  instanceTypes := #[(.object "java/math/BigDecimal")]
  staticTypes := #[.int, (.object "java/math/RoundingMode"), (.object "org/benli/core/Money"), .int, .int, (.array .char), (.array .char)]
  resolved := Array.replicate 197 none
  statics := some 0 }

def pool4 : Array CpInfo := pool [(1, .class_ 2), (0, u "java/lang/Math"), (1, .class_ 6), (1, u "java/lang/Object"), (0, u "<init>"), (0, u "()V"), (89, .class_ 100), (1, u "java/lang/Math$RandomNumberGeneratorHolder"), (23, u "abs"), (0, u "(J)J"), (46, u "negativeZeroFloatBits"), (0, u "J"), (2, u "negativeZeroDoubleBits"), (68, u "$assertionsDisabled"), (0, u "Z"), (91, u "twoToTheDoubleScaleDown"), (0, u "D"), (4, u "twoToTheDoubleScaleUp"), (9, u "E"), (3, u "PI"), (2, u "TAU"), (2, u "DEGREES_TO_RADIANS"), (0, u "RADIANS_TO_DEGREES")] 94

def k4m0 : Method := { name := "<init>", desc := "()V", sig := { parameters := [], returnType := none }, accessFlags := 2, code := none }
def k4c1 : Code := { maxStack := 4, maxLocals := 2, code := jdk_29_method_61_code, exceptionTable := #[], attributes := #[] }
def k4m1 : Method := { name := "abs", desc := "(J)J", sig := { parameters := [.long], returnType := some .long }, accessFlags := 9, code := some k4c1 }
/-- java/lang/Math -/
def k4 : Class := { plain "java/lang/Math" (some 0) with
  accessFlags := 49
  interfaces := #[]
  cf := some (fileOf pool4 1 #[.nestMembers #[98]] #[{ accessFlags := 2, nameIndex := 7, descriptorIndex := 8, attributes := #[] }, { accessFlags := 9, nameIndex := 124, descriptorIndex := 125, attributes := #[] }] 49 4 #[] #[{ accessFlags := 25, nameIndex := 354, descriptorIndex := 339, attributes := #[] }, { accessFlags := 25, nameIndex := 358, descriptorIndex := 339, attributes := #[] }, { accessFlags := 25, nameIndex := 361, descriptorIndex := 339, attributes := #[] }, { accessFlags := 26, nameIndex := 364, descriptorIndex := 339, attributes := #[] }, { accessFlags := 26, nameIndex := 365, descriptorIndex := 339, attributes := #[] }, { accessFlags := 26, nameIndex := 172, descriptorIndex := 173, attributes := #[] }, { accessFlags := 26, nameIndex := 176, descriptorIndex := 173, attributes := #[] }, { accessFlags := 8, nameIndex := 344, descriptorIndex := 339, attributes := #[] }, { accessFlags := 8, nameIndex := 338, descriptorIndex := 339, attributes := #[] }, { accessFlags := 4120, nameIndex := 245, descriptorIndex := 246, attributes := #[] }])
  fields := #[{ name := "E", type := .double, accessFlags := 25, slot := 0, constantValue := 0 }, { name := "PI", type := .double, accessFlags := 25, slot := 1, constantValue := 0 }, { name := "TAU", type := .double, accessFlags := 25, slot := 2, constantValue := 0 }, { name := "DEGREES_TO_RADIANS", type := .double, accessFlags := 26, slot := 3, constantValue := 0 }, { name := "RADIANS_TO_DEGREES", type := .double, accessFlags := 26, slot := 4, constantValue := 0 }, { name := "negativeZeroFloatBits", type := .long, accessFlags := 26, slot := 5, constantValue := 0 }, { name := "negativeZeroDoubleBits", type := .long, accessFlags := 26, slot := 6, constantValue := 0 }, { name := "twoToTheDoubleScaleUp", type := .double, accessFlags := 8, slot := 7, constantValue := 0 }, { name := "twoToTheDoubleScaleDown", type := .double, accessFlags := 8, slot := 8, constantValue := 0 }, { name := "$assertionsDisabled", type := .boolean, accessFlags := 4120, slot := 9, constantValue := 0 }]
  methods := #[k4m0, k4m1]
  instanceTypes := #[]
  staticTypes := #[.double, .double, .double, .double, .double, .long, .long, .double, .double, .boolean]
  resolved := Array.replicate 460 none
  statics := none }

def pool5 : Array CpInfo := pool [(1, u "java/lang/Cloneable"), (0, .class_ 1), (0, u "java/lang/Object"), (0, .class_ 3)] 3

/-- java/lang/Cloneable -/
def k5 : Class := { plain "java/lang/Cloneable" (some 0) with
  accessFlags := 1537
  interfaces := #[]
  cf := some (fileOf pool5 2 #[] #[] 1537 4 #[] #[])
  fields := #[]
  methods := #[]
  instanceTypes := #[]
  staticTypes := #[]
  resolved := Array.replicate 8 none
  statics := none }

def pool6 : Array CpInfo := pool [(1, u "java/io/Serializable"), (0, .class_ 1), (0, u "java/lang/Object"), (0, .class_ 3)] 3

/-- java/io/Serializable -/
def k6 : Class := { plain "java/io/Serializable" (some 0) with
  accessFlags := 1537
  interfaces := #[]
  cf := some (fileOf pool6 2 #[] #[] 1537 4 #[] #[])
  fields := #[]
  methods := #[]
  instanceTypes := #[]
  staticTypes := #[]
  resolved := Array.replicate 8 none
  statics := none }

/-- the primitive byte -/
def k7 : Class := { plain "byte" none with kind := .primitive 'B', accessFlags := 0x411 }
/-- [B -/
def k8 : Class := { plain "[B" (some 0) with kind := .array 7 .byte, interfaces := #[5, 6], accessFlags := 1041 }

/-- the primitive char -/
def k9 : Class := { plain "char" none with kind := .primitive 'C', accessFlags := 0x411 }
/-- [C -/
def k10 : Class := { plain "[C" (some 0) with kind := .array 9 .char, interfaces := #[5, 6], accessFlags := 1041 }

/-- the primitive int -/
def k11 : Class := { plain "int" none with kind := .primitive 'I', accessFlags := 0x411 }
/-- [I -/
def k12 : Class := { plain "[I" (some 0) with kind := .array 11 .int, interfaces := #[5, 6], accessFlags := 1041 }

/-- the primitive long -/
def k13 : Class := { plain "long" none with kind := .primitive 'J', accessFlags := 0x411 }
/-- [J -/
def k14 : Class := { plain "[J" (some 0) with kind := .array 13 .long, interfaces := #[5, 6], accessFlags := 1041 }

def heap : Heap := #[{ cls := 3, slots := #[.int 0, .null, .null, .int 0, .int 0, .ref 2, .ref 1], vm := .statics 3 },
  { cls := 10, slots := #[.int 48, .int 49, .int 50, .int 51, .int 52, .int 53, .int 54, .int 55, .int 56, .int 57, .int 48, .int 49, .int 50, .int 51, .int 52, .int 53, .int 54, .int 55, .int 56, .int 57, .int 48, .int 49, .int 50, .int 51, .int 52, .int 53, .int 54, .int 55, .int 56, .int 57, .int 48, .int 49, .int 50, .int 51, .int 52, .int 53, .int 54, .int 55, .int 56, .int 57, .int 48, .int 49, .int 50, .int 51, .int 52, .int 53, .int 54, .int 55, .int 56, .int 57, .int 48, .int 49, .int 50, .int 51, .int 52, .int 53, .int 54, .int 55, .int 56, .int 57, .int 48, .int 49, .int 50, .int 51, .int 52, .int 53, .int 54, .int 55, .int 56, .int 57, .int 48, .int 49, .int 50, .int 51, .int 52, .int 53, .int 54, .int 55, .int 56, .int 57, .int 48, .int 49, .int 50, .int 51, .int 52, .int 53, .int 54, .int 55, .int 56, .int 57, .int 48, .int 49, .int 50, .int 51, .int 52, .int 53, .int 54, .int 55, .int 56, .int 57], vm := .none },
  { cls := 10, slots := #[.int 48, .int 48, .int 48, .int 48, .int 48, .int 48, .int 48, .int 48, .int 48, .int 48, .int 49, .int 49, .int 49, .int 49, .int 49, .int 49, .int 49, .int 49, .int 49, .int 49, .int 50, .int 50, .int 50, .int 50, .int 50, .int 50, .int 50, .int 50, .int 50, .int 50, .int 51, .int 51, .int 51, .int 51, .int 51, .int 51, .int 51, .int 51, .int 51, .int 51, .int 52, .int 52, .int 52, .int 52, .int 52, .int 52, .int 52, .int 52, .int 52, .int 52, .int 53, .int 53, .int 53, .int 53, .int 53, .int 53, .int 53, .int 53, .int 53, .int 53, .int 54, .int 54, .int 54, .int 54, .int 54, .int 54, .int 54, .int 54, .int 54, .int 54, .int 55, .int 55, .int 55, .int 55, .int 55, .int 55, .int 55, .int 55, .int 55, .int 55, .int 56, .int 56, .int 56, .int 56, .int 56, .int 56, .int 56, .int 56, .int 56, .int 56, .int 57, .int 57, .int 57, .int 57, .int 57, .int 57, .int 57, .int 57, .int 57, .int 57], vm := .none }]
def classes : Array Class := #[k0, k1, k2, k3, k4, k5, k6, k7, k8, k9, k10, k11, k12, k13, k14]
def interned : List (Array UInt16 × Addr) := []
def slotsUsed : Nat := 207
def theMethod : MethodId := ⟨1, 3⟩
def args0 : Array Value := #[.long 12345, .int 2]
def aboutOver (below : List Frame) : State where
  vm := { classes := classes, interned := interned.toArray }
  heap := heap
  slotsUsed := slotsUsed
  threads := #[{ frames := .invoking theMethod args0 :: below }]
def below0 : List Frame := [.native { method := ⟨0, 0⟩, args := #[] }]
def about1 : State := aboutOver below0
def p0 : Program := .bare "" "" ""
def e0 : Env := launch0.env 0 0 0
theorem w_frames : about1.frames = Frame.invoking theMethod args0 :: below0 := rfl
set_option maxRecDepth 65536 in
theorem w_args : argsFit about1.vm theMethod args0 = true := by decide +kernel
set_option maxRecDepth 65536 in
theorem w_heap : heapFits about1 = true := by decide +kernel
set_option maxRecDepth 65536 in
theorem w_runnable : about1.curStatus? = some .runnable := by decide +kernel
set_option maxRecDepth 65536 in
theorem w_alone : about1.alone = true := by decide +kernel
set_option maxRecDepth 65536 in
theorem w_named : about1.methodNamed? x = some theMethod := by decide +kernel
set_option maxRecDepth 65536 in
theorem w_hears : about1.hears theMethod below0 = true := by decide +kernel
set_option maxRecDepth 65536 in
theorem w_ripe : about1.ripe theMethod args0 below0 = true := by decide +kernel
theorem w_running : about1.status = .running := rfl
set_option maxRecDepth 65536 in
theorem w_room : about1.hasRoom e0.platform room_1 = true :=
  launch0.hasRoom_least _ room_1 (by decide +kernel) (by decide +kernel) (by decide +kernel) (by decide +kernel) (by decide +kernel) (by decide +kernel)
theorem allAtoms_all (ts : List Jvm.Cond) (a : Array Jvm.Value) (st : Jvm.State) : (allAtoms ts).before a st = ts.all (fun c => c.before a st) := by
  induction ts with
  | nil => rfl
  | cons c t ih =>
    show (Jvm.Cond.and c (allAtoms t)).before a st = _
    rw [Jvm.Cond.before_and, ih, List.all_cons]
def words1 : List Jvm.Cond := Jvm.Cond.code x code maxLocals ret :: tables_1
/-- a 'code' word, met by the world's own term for the bytes: nothing is compared byte by byte -/
theorem code_word {y : MethodName} {bytes : ByteArray} {mx : Nat} {rt : Option FieldType} {a : Array Value} {s : State} {m : MethodId} {meth : Method} {c : Code} (h1 : s.methodNamed? y = some m) (h2 : s.vm.method? m = some meth) (h3 : meth.code = some c) (h4 : c.code = bytes)
    (h5 : (c.maxLocals == mx && c.exceptionTable.isEmpty && decide (c.maxStack ≤ mostOperands) && decide (meth.sig.returnType = rt) && !meth.locks && decide (parseMethodDescriptor y.desc = some meth.sig)) = true) : (Jvm.Cond.code y bytes mx rt).before a s = true := by
  simp only [Bool.and_eq_true, beq_iff_eq, Bool.not_eq_true', decide_eq_true_eq] at h5
  obtain ⟨⟨⟨⟨⟨g1, g2⟩, g3⟩, g4⟩, g5⟩, g6⟩ := h5
  simp [Cond.before, Cond.holds, Cond.value, h1, h2, h3, h4, g1, g2, g3, g4, g5, g6]
def isCode : Jvm.Cond → Bool
  | .code _ _ _ _ => true
  | _ => false
theorem all_split {L : List Jvm.Cond} {P : Jvm.Cond → Bool} (h1 : L.all (fun c => isCode c || P c) = true) (h2 : ∀ c ∈ L.filter isCode, P c = true) : L.all P = true := by
  refine List.all_eq_true.mpr fun c hc => ?_
  have h := List.all_eq_true.mp h1 c hc
  rcases Bool.eq_false_or_eq_true (isCode c) with hi | hi
  · exact h2 c (List.mem_filter.mpr ⟨hc, hi⟩)
  · simpa [hi] using h
set_option maxRecDepth 65536 in
theorem w_c0 : (Jvm.Cond.code x code maxLocals ret).before args0 about1 = true := code_word (m := ⟨1, 3⟩) (meth := k1m3) (c := k1c3) (by decide +kernel) rfl rfl rfl (by decide +kernel)
set_option maxRecDepth 65536 in
theorem w_c1 : (Jvm.Cond.code ({ cls := "org/benli/core/Money", name := "toChars", desc := "(J[CI)I" } : Jvm.MethodName) prog_32_method_13_code (12 : Nat) (Option.some Jvm.ClassFile.FieldType.int)).before args0 about1 = true := code_word (m := ⟨3, 0⟩) (meth := k3m0) (c := k3c0) (by decide +kernel) rfl rfl rfl (by decide +kernel)
set_option maxRecDepth 65536 in
theorem w_c2 : (Jvm.Cond.code ({ cls := "org/benli/core/Money", name := "digits", desc := "(J)I" } : Jvm.MethodName) prog_32_method_14_code (5 : Nat) (Option.some Jvm.ClassFile.FieldType.int)).before args0 about1 = true := code_word (m := ⟨3, 1⟩) (meth := k3m1) (c := k3c1) (by decide +kernel) rfl rfl rfl (by decide +kernel)
set_option maxRecDepth 65536 in
theorem w_c3 : (Jvm.Cond.code ({ cls := "java/lang/Math", name := "abs", desc := "(J)J" } : Jvm.MethodName) jdk_29_method_61_code (2 : Nat) (Option.some Jvm.ClassFile.FieldType.long)).before args0 about1 = true := code_word (m := ⟨4, 1⟩) (meth := k4m1) (c := k4c1) (by decide +kernel) rfl rfl rfl (by decide +kernel)
set_option maxRecDepth 65536 in
theorem w_c4 : (Jvm.Cond.code ({ cls := "org/benli/core/MoneyToCharsPinLaw", name := "cell", desc := "([CIIIIJI[J)Z" } : Jvm.MethodName) method_3_code (9 : Nat) (Option.some Jvm.ClassFile.FieldType.boolean)).before args0 about1 = true := code_word (m := ⟨1, 2⟩) (meth := k1m2) (c := k1c2) (by decide +kernel) rfl rfl rfl (by decide +kernel)
set_option maxRecDepth 65536 in
theorem w_c5 : (Jvm.Cond.code ({ cls := "org/benli/core/MoneyToCharsPinLaw", name := "expect", desc := "(IIJI[J)C" } : Jvm.MethodName) method_2_code (6 : Nat) (Option.some Jvm.ClassFile.FieldType.char)).before args0 about1 = true := code_word (m := ⟨1, 1⟩) (meth := k1m1) (c := k1c1) (by decide +kernel) rfl rfl rfl (by decide +kernel)
def codes1 : List Jvm.Cond := [Jvm.Cond.code x code maxLocals ret, Jvm.Cond.code ({ cls := "org/benli/core/Money", name := "toChars", desc := "(J[CI)I" } : Jvm.MethodName) prog_32_method_13_code (12 : Nat) (Option.some Jvm.ClassFile.FieldType.int), Jvm.Cond.code ({ cls := "org/benli/core/Money", name := "digits", desc := "(J)I" } : Jvm.MethodName) prog_32_method_14_code (5 : Nat) (Option.some Jvm.ClassFile.FieldType.int), Jvm.Cond.code ({ cls := "java/lang/Math", name := "abs", desc := "(J)J" } : Jvm.MethodName) jdk_29_method_61_code (2 : Nat) (Option.some Jvm.ClassFile.FieldType.long), Jvm.Cond.code ({ cls := "org/benli/core/MoneyToCharsPinLaw", name := "cell", desc := "([CIIIIJI[J)Z" } : Jvm.MethodName) method_3_code (9 : Nat) (Option.some Jvm.ClassFile.FieldType.boolean), Jvm.Cond.code ({ cls := "org/benli/core/MoneyToCharsPinLaw", name := "expect", desc := "(IIJI[J)C" } : Jvm.MethodName) method_2_code (6 : Nat) (Option.some Jvm.ClassFile.FieldType.char)]
set_option maxRecDepth 65536 in
theorem codes_eq : words1.filter isCode = codes1 := rfl
theorem w_codes : ∀ c ∈ words1.filter isCode, c.before args0 about1 = true := by
  rw [codes_eq]
  intro c hc
  simp only [codes1, List.mem_cons, List.not_mem_nil, or_false] at hc
  rcases hc with rfl | rfl | rfl | rfl | rfl | rfl
  · exact w_c0
  · exact w_c1
  · exact w_c2
  · exact w_c3
  · exact w_c4
  · exact w_c5
set_option maxRecDepth 65536 in
theorem w_t1 : (words1.take 24).all (fun c => isCode c || c.before args0 about1) = true := by decide +kernel
set_option maxRecDepth 65536 in
theorem w_t2 : (words1.drop 24).all (fun c => isCode c || c.before args0 about1) = true := by decide +kernel
theorem w_tables : (allAtoms (Jvm.Cond.code x code maxLocals ret :: tables_1)).before args0 about1 = true := by
  rw [allAtoms_all]
  show words1.all (fun c => c.before args0 about1) = true
  refine all_split ?_ w_codes
  rw [← List.take_append_drop 24 words1, List.all_append, w_t1, w_t2]
  rfl
set_option maxRecDepth 65536 in
theorem w_case : (Jvm.Cond.and given_1 narrow_1).before args0 about1 = true := by decide +kernel
theorem w_applies : (headSpec (Jvm.Cond.code x code maxLocals ret :: tables_1) room_1).applies x e0.platform about1 = true :=
  (Spec.applies_iff w_frames).mpr ⟨w_running, w_runnable, w_alone, w_named, w_hears, w_ripe, w_room, w_tables⟩
theorem atStart : AtStart classFile x code maxLocals ret World_1 tables_1 room_1 Calls_1 rest_1 Pre_1 launch0 p0 e0 about1 theMethod args0 below0 :=
  ⟨lists_1, trivial, launch0.admits_env _ _ _, launch0.least_env, fairChoices_fair.cas, fairChoices_fair.clock, w_frames, w_args, w_heap, w_applies, trivial, trivial, w_case⟩
end start1
theorem witness_1 : WitnessClaimed_1 := ⟨start1.p0, start1.e0, start1.about1, start1.theMethod, start1.args0, start1.below0, start1.atStart⟩
end Jvm.Pilot.@@N@@
