import JvmDerived
import JvmDerived.Pilot.@@N@@Statement
import JvmDerived.Pilot.@@N@@Code
set_option linter.unusedVariables false
set_option linter.unusedSimpArgs false

namespace Jvm.RoadKit
open Sem ClassFile Op Lib Jvm.Stand Jvm.Free Jvm.LawKit
section New
variable {p : Program} {l : Launch} {e : Env} {R : Room} {s : State} {m : MethodId} {args : Array Value} {below : List Frame} {meth : Method} {c : Code} {T : State} {locs : List Loc} {cells slots : Nat}
theorem retI (X : Stand p l e R s m args below meth c T locs cells slots) (hx : p.tables.exec = Jvm.exec) {pc : Nat} {Ls : Array Slot} {z : Int32} {rest : List Value} (hret : meth.sig.returnType = some .int) (hd : decode c.code pc = .ok (.ireturn, 1)) {fs : List Frame}
    (hl : ∀ (f : JFrame) (acts : List Action), f.method = m → f.locked = none → f.entered = [] → (doReturn e (T.setTop f) acts (some (.int z))).1 = T.setFrames fs) : Steps p.tables e below (T.setTop (mkF m pc Ls (.int z :: rest))) (T.setFrames fs) := by
  have hm' : T.vm.method? m = some meth := X.method'
  have hn : narrow .int (.int z) = .int z := rfl
  show Steps p.tables e below (T.setTop { method := m, pc := pc, locals := Ls, stack := _ :: rest, locked := none }) _
  jvm_step X.here [X.here.top, hx, hd, hm', hret, hn]
  first | (intro acts; rw [hl _ acts rfl rfl rfl]) | rw [hl _ _ rfl rfl rfl]
  exact Steps.refl _
end New
end Jvm.RoadKit
namespace Own
open Jvm.FP.Core
theorem own_fin_of {s : Bool} {A B : Nat} {e : Int} : ∃ c q, roundRatio b64 s A B e = .fin s c q ∨ roundRatio b64 s A B e = .inf s := by
  unfold roundRatio roundAt settle bound
  split
  · exact ⟨_, _, Or.inl rfl⟩
  · split <;> split
    · exact ⟨_, _, Or.inl rfl⟩
    · exact ⟨0, 0, Or.inr rfl⟩
    · exact ⟨_, _, Or.inl rfl⟩
    · exact ⟨0, 0, Or.inr rfl⟩
theorem own_ord_nn {c : Nat} {q : Int} : order (.fin false c q) (.fin false 0 b64.qmin) = some .gt ∨ order (.fin false c q) (.fin false 0 b64.qmin) = some .eq := by
  by_cases hc : c = 0
  · right; subst hc; simp [order, inUnits, compare_self_int]
  · left
    simp only [order]
    have h1 : (0 : Int) < (inUnits c q (min q b64.qmin) : Nat) := by
      have := Nat.two_pow_pos (q - min q b64.qmin).toNat
      unfold inUnits
      exact Int.ofNat_lt.mpr (Nat.mul_pos (Nat.pos_of_ne_zero hc) this)
    have h0 : inUnits 0 b64.qmin (min q b64.qmin) = 0 := by simp [inUnits]
    rw [h0]
    show some (compare ((inUnits c q (min q b64.qmin) : Nat) : Int) ((0 : Nat) : Int)) = _
    congr 1
    exact Int.compare_eq_gt.mpr h1
/-- none below zero, as a datum -/
def own_NN (x : UInt64) : Prop := ∃ c q, val64 x = .fin false c q
theorem own_NN_l2d {t : Int64} (h : 0 ≤ t.toInt) (hf : DFin (l2d t)) : own_NN (l2d t) := by
  obtain ⟨s, c, q, e⟩ := hf
  have hr : val64 (l2d t) = roundRatio b64 (decide (t.toInt < 0)) t.toInt.natAbs 1 0 := val64_l2d t
  rw [show decide (t.toInt < 0) = false by simp; omega] at hr
  obtain ⟨c', q', z | z⟩ := own_fin_of (s := false) (A := t.toInt.natAbs) (B := 1) (e := 0)
  · exact ⟨c', q', hr.trans z⟩
  · rw [hr, z] at e; cases e
theorem own_NN_div {a b : UInt64} (ha : own_NN a) (hb : own_NN b) (hz : ¬ DZero b) (hf : DFin (ddiv a b)) : own_NN (ddiv a b) := by
  obtain ⟨c, q, ea⟩ := ha
  obtain ⟨d, r, eb⟩ := hb
  obtain ⟨s, x, y, e⟩ := hf
  have hd : d ≠ 0 := fun z => hz ⟨false, r, by rw [eb, z]⟩
  have hr : val64 (ddiv a b) = roundRatio b64 (false != false) c d (q - r) := by
    rw [val64_ddiv, ea, eb]
    show (if d = 0 then _ else _) = _
    rw [if_neg hd]
  obtain ⟨c', q', z | z⟩ := own_fin_of (s := (false != false)) (A := c) (B := d) (e := q - r)
  · exact ⟨c', q', hr.trans z⟩
  · rw [hr, z] at e; cases e
theorem own_NN_cmp {x : UInt64} (h : own_NN x) : dcmp x dconst0 = some .gt ∨ dcmp x dconst0 = some .eq := by
  obtain ⟨c, q, e⟩ := h
  show order (val64 x) (val64 dconst0) = _ ∨ order (val64 x) (val64 dconst0) = _
  rw [e, val64_dconst0]; exact own_ord_nn
theorem own_pos {A B : Nat} {e : Int} (hA : 0 < A) (hB : 0 < B) (h : B * 2 ^ (b64.qmin - e).toNat ≤ A * 2 ^ (e - b64.qmin).toNat) :
    (∃ c q, 0 < c ∧ roundRatio b64 false A B e = .fin false c q) ∨ roundRatio b64 false A B e = .inf false := by
  have hu : 1 ≤ nearest (unitsNum A e (quantum b64 A B e)) (unitsDen B e (quantum b64 A B e)) := by
    refine nearest_ge (unitsDen_pos hB ..) ?_
    rw [Nat.one_mul]
    rcases quantum_not_below (f := b64) hA hB e with h2 | h2
    · rw [h2]; exact h
    · rw [show (b64.p : Int) - 1 = ((b64.p - 1 : Nat) : Int) by decide, ← units_below] at h2
      exact Nat.le_trans (Nat.le_mul_of_pos_left _ (Nat.two_pow_pos _)) (Nat.le_of_not_lt h2)
  unfold roundRatio roundAt settle bound
  rw [if_neg (by omega)]
  split <;> split
  · exact Or.inl ⟨_, _, hu, rfl⟩
  · exact Or.inr rfl
  · exact Or.inl ⟨_, _, tails_pos _, rfl⟩
  · exact Or.inr rfl
theorem own_ord_pos {c : Nat} {q : Int} (hc : 0 < c) : order (.fin false c q) (.fin false 0 b64.qmin) = some .gt := by
  simp only [order]
  have h1 : (0 : Int) < (inUnits c q (min q b64.qmin) : Nat) := by
    have := Nat.two_pow_pos (q - min q b64.qmin).toNat
    unfold inUnits
    exact Int.ofNat_lt.mpr (Nat.mul_pos hc this)
  have h0 : inUnits 0 b64.qmin (min q b64.qmin) = 0 := by simp [inUnits]
  rw [h0]
  show some (compare ((inUnits c q (min q b64.qmin) : Nat) : Int) ((0 : Nat) : Int)) = _
  congr 1
  exact Int.compare_eq_gt.mpr h1
theorem own_i2d_v {a : Int32} (h : 0 ≤ a.toInt) : ∃ c q, val64 (i2d a) = .fin false c q ∧ Whole (a.toInt.toNat : Int) (.fin false c q) := by
  have hi := i2d_int a
  unfold DInt at hi
  rw [val64_i2d] at hi ⊢
  have hr : round b64 (ofInt a.toInt) = roundRatio b64 (decide (a.toInt < 0)) a.toInt.natAbs 1 0 := rfl
  rw [show decide (a.toInt < 0) = false by simp; omega] at hr
  rw [hr] at hi ⊢
  rw [show ((a.toInt.toNat : Nat) : Int) = a.toInt by omega]
  obtain ⟨c, q, e | e⟩ := own_fin_of (s := false) (A := a.toInt.natAbs) (B := 1) (e := 0)
  · exact ⟨c, q, e, e ▸ hi⟩
  · rw [e] at hi; exact hi.elim
theorem own_whole_nat {n : Nat} {s : Bool} {c : Nat} {q : Int} (h : Whole (n : Int) (.fin s c q)) : c * 2 ^ q.toNat = n * 2 ^ (-q).toNat := by
  have := whole_natAbs h
  simpa using this
theorem own_cpos {n : Nat} {c : Nat} {q : Int} (h : Whole (n : Int) (.fin false c q)) (hn : 0 < n) : 0 < c := by
  have := own_whole_nat h
  rcases Nat.eq_zero_or_pos c with z | z
  · rw [z, Nat.zero_mul] at this
    have := Nat.mul_pos hn (Nat.two_pow_pos (-q).toNat)
    omega
  · exact z
theorem own_gt_of {x : UInt64} {A B : Nat} {e : Int} (hx : val64 x = roundRatio b64 false A B e) (hp : (∃ c q, 0 < c ∧ roundRatio b64 false A B e = .fin false c q) ∨ roundRatio b64 false A B e = .inf false) : val64 x ≠ .nan ∧ dcmp x dconst0 = some .gt := by
  have : dcmp x dconst0 = order (val64 x) (val64 dconst0) := rfl
  rw [this, hx, val64_dconst0]
  rcases hp with ⟨c, q, hc, z⟩ | z <;> rw [z]
  · exact ⟨by simp, own_ord_pos hc⟩
  · exact ⟨by simp, by decide⟩
/-- the least number, a positive whole number of times -/
theorem own_tolM {m : Int32} (h : 0 < m.toInt) : val64 (dmul (i2d m) 1) ≠ .nan ∧ dcmp (dmul (i2d m) 1) dconst0 = some .gt := by
  obtain ⟨c, q, e, w⟩ := own_i2d_v (Int.le_of_lt h)
  have h1 : val64 1 = .fin false 1 (-1074) := by decide +kernel
  have hx : val64 (dmul (i2d m) 1) = roundRatio b64 false (c * 1) 1 (q + -1074) := by
    rw [val64_dmul, e, h1]; rfl
  have hc := own_cpos w (by omega)
  refine own_gt_of hx (own_pos (by omega) (by decide) ?_)
  have hw := own_whole_nat w
  rw [show (b64.qmin - (q + -1074)).toNat = (-q).toNat by rw [show b64.qmin = -1074 by decide]; omega, show (q + -1074 - b64.qmin).toNat = q.toNat by rw [show b64.qmin = -1074 by decide]; omega, Nat.mul_one, hw]
  exact Nat.mul_le_mul_right _ (by omega)
theorem own_ddiv {a b : UInt64} {A B : Nat} {c d : Nat} {q r : Int} (ha : val64 a = .fin false c q) (hA : Whole (A : Int) (.fin false c q)) (hb : val64 b = .fin false d r) (hB : Whole (B : Int) (.fin false d r)) (hB0 : 0 < B) :
    val64 (ddiv a b) = roundRatio b64 false A B 0 := by
  rw [val64_ddiv, ha, hb]
  have h1 := own_whole_nat hA
  have h2 := own_whole_nat hB
  have hd : d ≠ 0 := by have := own_cpos hB hB0; omega
  show (if d = 0 then _ else roundRatio b64 (false != false) c d (q - r)) = _
  rw [if_neg hd]
  refine roundRatio_congr (Nat.pos_of_ne_zero hd) hB0 ?_
  have e1 : (q - r - 0).toNat + (-q).toNat + r.toNat = (0 - (q - r)).toNat + q.toNat + (-r).toNat := by omega
  have p1 := Nat.two_pow_pos (q.toNat)
  have p2 := Nat.two_pow_pos ((-q).toNat)
  have p3 := Nat.two_pow_pos (r.toNat)
  have p4 := Nat.two_pow_pos ((-r).toNat)
  refine Nat.eq_of_mul_eq_mul_right (Nat.mul_pos (Nat.mul_pos p1 p2) (Nat.mul_pos p3 p4)) ?_
  calc c * B * 2 ^ (q - r - 0).toNat * (2 ^ q.toNat * 2 ^ (-q).toNat * (2 ^ r.toNat * 2 ^ (-r).toNat))
      = (c * 2 ^ q.toNat) * (B * 2 ^ (-r).toNat) * (2 ^ ((q - r - 0).toNat + (-q).toNat + r.toNat)) := by simp only [Nat.pow_add]; ac_rfl
    _ = (A * 2 ^ (-q).toNat) * (d * 2 ^ r.toNat) * (2 ^ ((0 - (q - r)).toNat + q.toNat + (-r).toNat)) := by rw [h1, h2, e1]
    _ = A * d * 2 ^ (0 - (q - r)).toNat * (2 ^ q.toNat * 2 ^ (-q).toNat * (2 ^ r.toNat * 2 ^ (-r).toNat)) := by simp only [Nat.pow_add]; ac_rfl
theorem own_divI {a b : Int32} (ha : 0 ≤ a.toInt) (hb : 0 < b.toInt) : val64 (ddiv (i2d a) (i2d b)) = roundRatio b64 false a.toInt.toNat b.toInt.toNat 0 := by
  obtain ⟨c, q, e, w⟩ := own_i2d_v ha
  obtain ⟨c', q', e', w'⟩ := own_i2d_v (Int.le_of_lt hb)
  exact own_ddiv e w e' w' (by omega)
theorem own_tolD {m u : Int32} (h : 0 < m.toInt) (hu : 0 < u.toInt) : val64 (ddiv (i2d m) (i2d u)) ≠ .nan ∧ dcmp (ddiv (i2d m) (i2d u)) dconst0 = some .gt := by
  refine own_gt_of (own_divI (Int.le_of_lt h) hu) (own_pos (by omega) (by omega) ?_)
  rw [show (b64.qmin - 0).toNat = 0 by decide, show (0 - b64.qmin).toNat = 1074 by decide]
  have h1 := u.toInt_lt
  have : 2 ^ 32 ≤ 2 ^ 1074 := Nat.pow_le_pow_right (by decide) (by decide)
  refine Nat.le_trans (m := 2 ^ 32) (by omega) (Nat.le_trans this (Nat.le_mul_of_pos_left _ (by omega)))
theorem own_NN_i2d {a : Int32} (h : 0 ≤ a.toInt) : own_NN (i2d a) := by
  obtain ⟨c, q, e, -⟩ := own_i2d_v h; exact ⟨c, q, e⟩
theorem own_NZ_i2d {a : Int32} (h : 0 < a.toInt) : ¬ DZero (i2d a) := fun z => by
  obtain ⟨c, q, e, w⟩ := own_i2d_v (Int.le_of_lt h)
  obtain ⟨s, q', e'⟩ := z
  rw [e] at e'
  cases e'
  exact absurd (own_cpos w (by omega)) (by omega)
/-- what stands for A / B, within a relative half unit -/
def own_Rat (A B : Nat) (d : Datum) : Prop := ∃ c q, d = .fin false c q ∧ q ≤ 0 ∧ 2 ^ 53 * c * B ≤ (2 ^ 53 + 1) * A * 2 ^ (-q).toNat ∧ (2 ^ 53 - 1) * A * 2 ^ (-q).toNat ≤ 2 ^ 53 * c * B
theorem own_rr {A B : Nat} (hB : 0 < B) (hAB : A ≤ B) (h31 : B ≤ 2 ^ 33) : own_Rat A B (roundRatio b64 false A B 0) := by
  by_cases hA : A = 0
  · subst hA
    exact ⟨0, b64.qmin, by simp [roundRatio], by decide, by simp, by simp⟩
  have hA' : 0 < A := by omega
  have hl := leading_spec hA' hB
  -- the quantum
  have hlow : -34 ≤ leading A B := by
    have : Below A B (leading A B + 1) := hl.2
    have h2 : ¬ Below A B (-33) := by
      rw [show (-33 : Int) = ((0 : Nat) : Int) - ((33 : Nat) : Int) by decide, below_iff]
      have := Nat.mul_le_mul_right (2 ^ 33) hA'
      omega
    have := lt_of_below h2 this
    omega
  have hhigh : leading A B ≤ 0 := by
    have : Below A B 1 := by
      rw [show (1 : Int) = ((1 : Nat) : Int) - ((0 : Nat) : Int) by decide, below_iff]; omega
    have := lt_of_below hl.1 this
    omega
  have hqm : b64.qmin = -1074 := by decide
  have hqx : b64.qmax = 971 := by decide
  have hp : (b64.p : Int) = 53 := by decide
  obtain ⟨q, hq⟩ : ∃ q, quantum b64 A B 0 = q := ⟨_, rfl⟩
  have hq1 : q = leading A B - 52 := by rw [← hq]; unfold quantum; omega
  have hnb := quantum_not_below (f := b64) hA' hB 0
  rw [hq] at hnb
  have hnb2 : ¬ Below A B (q - 0 + ((52 : Nat) : Int)) := by
    rcases hnb with h | h
    · omega
    · rw [hp] at h; exact h
  rw [← units_below] at hnb2
  have hU : unitsNum A 0 q = A * 2 ^ (-q).toNat := by unfold unitsNum; rw [show (0 - q) = -q by omega]
  have hV : unitsDen B 0 q = B := by unfold unitsDen; rw [show (q - 0).toNat = 0 by omega]; simp
  rw [hU, hV] at hnb2
  obtain ⟨n, hn⟩ : ∃ n, nearest (unitsNum A 0 q) (unitsDen B 0 q) = n := ⟨_, rfl⟩
  have hsp := nearest_spec (unitsNum A 0 q) (unitsDen B 0 q) (unitsDen_pos hB ..)
  rw [hn, hU, hV] at hsp
  obtain ⟨s1, s2, -⟩ := hsp
  have hle := nearest_units_le (f := b64) hA' hB 0
  rw [hq, hn] at hle
  have e : roundRatio b64 false A B 0 = settle b64 false n q := by
    unfold roundRatio roundAt
    rw [if_neg hA, hq, hn]
  rw [e]
  have hp2 : 2 ^ b64.p = 2 ^ 53 := by decide
  rw [hp2] at hle
  generalize hX : A * 2 ^ (-q).toNat = X at *
  have b1 : 2 ^ 53 * n * B ≤ (2 ^ 53 + 1) * X := by
    have : 2 * n * B * 2 ^ 52 ≤ (2 * X + B) * 2 ^ 52 := Nat.mul_le_mul_right _ s2
    have e1 : 2 * n * B * 2 ^ 52 = 2 ^ 53 * n * B := by rw [show (2 : Nat) ^ 53 = 2 * 2 ^ 52 by decide]; ac_rfl
    rw [e1] at this
    omega
  have b2 : (2 ^ 53 - 1) * X ≤ 2 ^ 53 * n * B := by
    have : 2 * X * 2 ^ 52 ≤ (2 * n + 1) * B * 2 ^ 52 := Nat.mul_le_mul_right _ s1
    have e1 : (2 * n + 1) * B * 2 ^ 52 = 2 ^ 53 * n * B + B * 2 ^ 52 := by rw [show (2 : Nat) ^ 53 = 2 * 2 ^ 52 by decide, Nat.add_mul, Nat.add_mul, Nat.one_mul]; congr 1; ac_rfl
    rw [e1] at this
    omega
  unfold settle bound
  by_cases hc : n < 2 ^ b64.p
  · rw [if_pos hc, if_pos (by omega)]
    refine ⟨n, q, rfl, by omega, ?_, ?_⟩
    · rw [Nat.mul_assoc _ A, hX]; exact b1
    · rw [Nat.mul_assoc _ A, hX]; exact b2
  · rw [if_neg hc, if_pos (by omega)]
    rw [hp2] at hc
    have hn53 : n = 2 ^ 53 := by omega
    refine ⟨b64.tails, q + 1, rfl, by omega, ?_, ?_⟩
    all_goals
      have ht : b64.tails = 2 ^ 52 := by decide
      have hX' : A * 2 ^ (-(q + 1)).toNat * 2 = X := by
        rw [← hX, Nat.mul_assoc, ← Nat.pow_succ]; congr 2; omega
      rw [Nat.mul_assoc _ A, ht]
      rw [hn53] at b1 b2
      omega
theorem own_ord {A1 A2 B : Nat} {d1 d2 : Datum} (hB : 0 < B) (h1 : own_Rat A1 B d1) (h2 : own_Rat A2 B d2) (hl : A1 < A2) (h33 : A2 ≤ 2 ^ 33) : order d1 d2 = some .lt := by
  obtain ⟨c1, q1, rfl, z1, u1, -⟩ := h1
  obtain ⟨c2, q2, rfl, z2, -, v2⟩ := h2
  simp only [order]
  congr 1
  refine Int.compare_eq_lt.mpr ?_
  show ((inUnits c1 q1 (min q1 q2) : Nat) : Int) < ((inUnits c2 q2 (min q1 q2) : Nat) : Int)
  refine Int.ofNat_lt.mpr ?_
  unfold inUnits
  generalize hm : min q1 q2 = m
  have p1 := Nat.two_pow_pos (q1 - m).toNat
  have e1 : (2 : Nat) ^ (-q1).toNat * 2 ^ (q1 - m).toNat = 2 ^ (-m).toNat := by rw [← Nat.pow_add]; congr 1; omega
  have e2 : (2 : Nat) ^ (-q2).toNat * 2 ^ (q2 - m).toNat = 2 ^ (-m).toNat := by rw [← Nat.pow_add]; congr 1; omega
  have w1 := Nat.mul_le_mul_right (2 ^ (q1 - m).toNat) u1
  have w2 := Nat.mul_le_mul_right (2 ^ (q2 - m).toNat) v2
  rw [Nat.mul_assoc (_ * A1), e1] at w1
  rw [Nat.mul_assoc (_ * A2), e2] at w2
  have hYp := Nat.two_pow_pos (-m).toNat
  generalize (2 : Nat) ^ (-m).toNat = Y at *
  have hY : (2 ^ 53 + 1) * A1 * Y ≤ (2 ^ 53 - 1) * A2 * Y := Nat.mul_le_mul_right _ (by omega)
  generalize hP1 : (2 : Nat) ^ (q1 - m).toNat = P1 at *
  generalize hP2 : (2 : Nat) ^ (q2 - m).toNat = P2 at *
  by_cases hlt : c1 * P1 < c2 * P2
  · exact hlt
  · exfalso
    have hge : c2 * P2 ≤ c1 * P1 := Nat.le_of_not_lt hlt
    have a1 : 2 ^ 53 * c1 * B * P1 = (c1 * P1) * (2 ^ 53 * B) := by ac_rfl
    have a2 : 2 ^ 53 * c2 * B * P2 = (c2 * P2) * (2 ^ 53 * B) := by ac_rfl
    rw [a1] at w1
    rw [a2] at w2
    have w3 := Nat.mul_le_mul_right (2 ^ 53 * B) hge
    have hY2 : (2 ^ 53 + 1) * A1 * Y < (2 ^ 53 - 1) * A2 * Y := Nat.mul_lt_mul_of_pos_right (by omega) hYp
    omega
theorem own_rat0 (B : Nat) : own_Rat 0 B (val64 dconst0) := ⟨0, b64.qmin, val64_dconst0, by decide, by simp, by simp⟩
theorem own_rat1 (B : Nat) : own_Rat B B (val64 dconst1) := ⟨2 ^ 52, -52, val64_dconst1, by decide, by rw [show (-(-52 : Int)).toNat = 52 by decide]; rw [Nat.mul_right_comm]; exact Nat.mul_le_mul_right _ (Nat.mul_le_mul_right _ (by decide)), by rw [show (-(-52 : Int)).toNat = 52 by decide]; rw [Nat.mul_right_comm (2 ^ 53)]; exact Nat.mul_le_mul_right _ (Nat.mul_le_mul_right _ (by decide))⟩
theorem own_one {B : Nat} (hB : 0 < B) : roundRatio b64 false B B 0 = val64 dconst1 := by
  rw [val64_dconst1]
  refine roundRatio_exact good_b64 hB ⟨by decide, by decide, by decide, Or.inr (by decide)⟩ ?_
  rw [show (0 - (-52 : Int)).toNat = 52 by decide, show ((-52 : Int) - 0).toNat = 0 by decide]
  simp [Nat.mul_comm]
theorem own_zero {B : Nat} : roundRatio b64 false 0 B 0 = val64 dconst0 := by
  rw [val64_dconst0]; simp [roundRatio]
theorem own_rnn {A B : Nat} (hB : 0 < B) (hAB : A ≤ B) (h : B ≤ 2 ^ 33) {x : UInt64} (hx : val64 x = roundRatio b64 false A B 0) : val64 x ≠ .nan := by
  obtain ⟨c, q, e, -⟩ := own_rr hB hAB h
  rw [hx, e]; simp
theorem own_cmpR {A1 A2 B : Nat} (hB : 0 < B) (h1 : A1 ≤ B) (h2 : A2 ≤ B) (h : B ≤ 2 ^ 33) {x y : UInt64} (hx : val64 x = roundRatio b64 false A1 B 0) (hy : val64 y = roundRatio b64 false A2 B 0) :
    dcmp x y = some (compare (A1 : Int) (A2 : Int)) := by
  show order (val64 x) (val64 y) = _
  rw [hx, hy]
  rcases Nat.lt_trichotomy A1 A2 with q | q | q
  · rw [own_ord hB (own_rr hB h1 h) (own_rr hB h2 h) q (by omega), Int.compare_eq_lt.mpr (by omega)]
  · subst q
    rw [order_self (by obtain ⟨c, q, e, -⟩ := own_rr hB h1 h; rw [e]; simp), compare_self_int]
  · rw [order_swap, own_ord hB (own_rr hB h2 h) (own_rr hB h1 h) q (by omega), Int.compare_eq_gt.mpr (by omega)]; rfl
theorem own_cmp0 {A B : Nat} (hB : 0 < B) (h1 : A ≤ B) (h : B ≤ 2 ^ 33) {x : UInt64} (hx : val64 x = roundRatio b64 false A B 0) : dcmp x Jvm.FP.dconst0 = some (compare (A : Int) 0) :=
  own_cmpR hB h1 (Nat.zero_le _) h hx own_zero.symm
theorem own_cmp1 {A B : Nat} (hB : 0 < B) (h1 : A ≤ B) (h : B ≤ 2 ^ 33) {x : UInt64} (hx : val64 x = roundRatio b64 false A B 0) : dcmp x Jvm.FP.dconst1 = some (compare (A : Int) (B : Int)) :=
  own_cmpR hB h1 (Nat.le_refl _) h hx (own_one hB).symm
/-- c over a power of two, times that power -/
theorem own_back {c j : Nat} {n p : UInt64} {x y : Nat} {q r : Int} (hj : j ≤ 30) (hc : c ≤ 2 ^ 53) (hn : val64 n = .fin false x q) (hN : Whole (c : Int) (.fin false x q)) (hp : val64 p = .fin false y r) (hP : Whole ((2 ^ j : Nat) : Int) (.fin false y r)) :
    DInt c (dmul (ddiv n p) p) := by
  have hd := own_ddiv hn hN hp hP (Nat.two_pow_pos j)
  have hy := own_whole_nat hP
  have hx := own_whole_nat hN
  unfold DInt
  rw [val64_dmul, hd, hp]
  by_cases c0 : c = 0
  · subst c0
    rw [show roundRatio b64 false 0 (2 ^ j) 0 = .fin false 0 b64.qmin by simp [roundRatio]]
    refine whole_round good_b64 wide_b64 (by decide) ?_
    show signed (false != false) (0 * y * 2 ^ (b64.qmin + r).toNat) = _
    simp [signed]
  · have hf := val64_fits n
    rw [hn] at hf
    obtain ⟨f1, f2, f3, f4⟩ := hf
    have hxp := own_cpos hN (by omega)
    have hp53 : (2 : Nat) ^ b64.p = 2 ^ 53 := by decide
    have hqm : b64.qmin = -1074 := by decide
    have hqx : b64.qmax = 971 := by decide
    rw [hp53] at f1
    have hq : -53 < q := by
      rcases Int.lt_or_le (-53) q with z | z
      · exact z
      · exfalso
        rw [show q.toNat = 0 by omega, Nat.pow_zero, Nat.mul_one] at hx
        have : 2 ^ 53 ≤ 2 ^ (-q).toNat := Nat.pow_le_pow_right (by decide) (by omega)
        have h2 : 1 * 2 ^ (-q).toNat ≤ c * 2 ^ (-q).toNat := Nat.mul_le_mul_right _ (by omega)
        omega
    have e : roundRatio b64 false c (2 ^ j) 0 = .fin false x (q - j) := by
      refine roundRatio_exact good_b64 (Nat.two_pow_pos j) ⟨by rw [hp53]; exact f1, by omega, by omega, Or.inr (f4.resolve_left (by omega))⟩ ?_
      refine Nat.eq_of_mul_eq_mul_right (Nat.two_pow_pos (-q).toNat) ?_
      have e1 : (0 - (q - (j : Int))).toNat + q.toNat = j + ((q - (j : Int)) - 0).toNat + (-q).toNat := by omega
      calc c * 2 ^ (0 - (q - (j : Int))).toNat * 2 ^ (-q).toNat = (c * 2 ^ (-q).toNat) * 2 ^ (0 - (q - (j : Int))).toNat := by ac_rfl
        _ = x * 2 ^ ((0 - (q - (j : Int))).toNat + q.toNat) := by rw [← hx, Nat.pow_add]; ac_rfl
        _ = x * 2 ^ j * 2 ^ (q - (j : Int) - 0).toNat * 2 ^ (-q).toNat := by rw [e1]; simp only [Nat.pow_add]; ac_rfl
    rw [e]
    refine whole_round good_b64 wide_b64 (by show Int.natAbs _ ≤ 2 ^ 53; omega) ?_
    show signed (false != false) (x * y * 2 ^ (q - j + r).toNat) = (c : Int) * ((2 ^ (-(q - j + r)).toNat : Nat) : Int)
    show ((x * y * 2 ^ (q - j + r).toNat : Nat) : Int) = _
    rw [← Int.natCast_mul]
    congr 1
    refine Nat.eq_of_mul_eq_mul_right (Nat.mul_pos (Nat.two_pow_pos (-q).toNat) (Nat.mul_pos (Nat.two_pow_pos q.toNat) (Nat.two_pow_pos r.toNat))) ?_
    have e2 : (q - j + r).toNat + (-q).toNat + j + (-r).toNat = (-(q - j + r)).toNat + q.toNat + r.toNat := by omega
    calc x * y * 2 ^ (q - j + r).toNat * (2 ^ (-q).toNat * (2 ^ q.toNat * 2 ^ r.toNat))
        = (x * 2 ^ q.toNat) * (y * 2 ^ r.toNat) * (2 ^ (q - j + r).toNat * 2 ^ (-q).toNat) := by ac_rfl
      _ = (c * 2 ^ (-q).toNat) * (2 ^ j * 2 ^ (-r).toNat) * (2 ^ (q - j + r).toNat * 2 ^ (-q).toNat) := by rw [hx, hy]
      _ = c * 2 ^ (-q).toNat * 2 ^ ((q - j + r).toNat + (-q).toNat + j + (-r).toNat) := by simp only [Nat.pow_add]; ac_rfl
      _ = c * 2 ^ (-(q - j + r)).toNat * (2 ^ (-q).toNat * (2 ^ q.toNat * 2 ^ r.toNat)) := by rw [e2]; simp only [Nat.pow_add]; ac_rfl
abbrev own_q (x n : Int32) : UInt64 := Jvm.FP.ddiv (Jvm.FP.i2d x) (Jvm.FP.i2d n)
theorem own_qv {x n : Int32} (h0 : 0 ≤ x.toInt) (hn : 0 < n.toInt) : val64 (own_q x n) = roundRatio b64 false x.toInt.toNat n.toInt.toNat 0 := own_divI h0 hn
theorem own_qc {x y n : Int32} (hx : 0 ≤ x.toInt) (hx2 : x.toInt ≤ n.toInt) (hy : 0 ≤ y.toInt) (hy2 : y.toInt ≤ n.toInt) (hn : 0 < n.toInt) : Jvm.FP.dcmp (own_q x n) (own_q y n) = some (compare x.toInt y.toInt) := by
  have hl := n.toInt_lt
  have := own_cmpR (by omega) (by omega) (by omega) (by omega) (own_qv hx hn) (own_qv hy hn)
  rw [show Jvm.FP.dcmp (own_q x n) (own_q y n) = dcmp (own_q x n) (own_q y n) from rfl, this, show ((x.toInt.toNat : Nat) : Int) = x.toInt by omega, show ((y.toInt.toNat : Nat) : Int) = y.toInt by omega]
theorem own_q0 {x n : Int32} (hx : 0 ≤ x.toInt) (hx2 : x.toInt ≤ n.toInt) (hn : 0 < n.toInt) : Jvm.FP.dcmp (own_q x n) Jvm.FP.dconst0 = some (compare x.toInt 0) := by
  have hl := n.toInt_lt
  have := own_cmp0 (by omega) (by omega) (by omega) (own_qv hx hn)
  rw [show Jvm.FP.dcmp (own_q x n) Jvm.FP.dconst0 = dcmp (own_q x n) Jvm.FP.dconst0 from rfl, this, show ((x.toInt.toNat : Nat) : Int) = x.toInt by omega]
theorem own_q1 {x n : Int32} (hx : 0 ≤ x.toInt) (hx2 : x.toInt ≤ n.toInt) (hn : 0 < n.toInt) : Jvm.FP.dcmp (own_q x n) Jvm.FP.dconst1 = some (compare x.toInt n.toInt) := by
  have hl := n.toInt_lt
  have := own_cmp1 (by omega) (by omega) (by omega) (own_qv hx hn)
  rw [show Jvm.FP.dcmp (own_q x n) Jvm.FP.dconst1 = dcmp (own_q x n) Jvm.FP.dconst1 from rfl, this, show ((x.toInt.toNat : Nat) : Int) = x.toInt by omega, show ((n.toInt.toNat : Nat) : Int) = n.toInt by omega]
theorem own_q2 {x n x2 n2 : Int32} (hx : 0 ≤ x.toInt) (hx2 : x.toInt ≤ n.toInt) (hn : 0 < n.toInt) (ex : x2.toInt = 2 * x.toInt) (en : n2.toInt = 2 * n.toInt) : Jvm.FP.dcmp (own_q x2 n2) (own_q x n) = some .eq := by
  have hl := n.toInt_lt
  have e : val64 (own_q x2 n2) = val64 (own_q x n) := by
    rw [own_qv (by omega) (by omega), own_qv hx hn]
    refine roundRatio_congr (by omega) (by omega) ?_
    rw [show x2.toInt.toNat = 2 * x.toInt.toNat by omega, show n2.toInt.toNat = 2 * n.toInt.toNat by omega]
    simp only [Int.sub_self, Int.toNat_zero, Nat.pow_zero, Nat.mul_one]
    rw [Nat.mul_comm 2, Nat.mul_comm 2, Nat.mul_right_comm, Nat.mul_assoc]
  show order (val64 (own_q x2 n2)) (val64 (own_q x n)) = _
  rw [e]
  exact order_self (own_rnn (by omega) (by omega) (by omega) (own_qv hx hn))
theorem own_qb {x n : Int32} {j : Nat} (hj : j ≤ 30) (hx : 0 ≤ x.toInt) (en : n.toInt = (2 ^ j : Nat)) : DInt x.toInt (Jvm.FP.dmul (own_q x n) (Jvm.FP.i2d n)) := by
  have hl := x.toInt_lt
  obtain ⟨c, q, e, w⟩ := own_i2d_v hx
  have hp := Nat.two_pow_pos j
  obtain ⟨c', q', e', w'⟩ := own_i2d_v (a := n) (by omega)
  have := own_back (c := x.toInt.toNat) hj (by omega) e w e' (by rw [show (((2 ^ j : Nat)) : Int) = (n.toInt.toNat : Int) by omega]; exact w')
  rw [show ((x.toInt.toNat : Nat) : Int) = x.toInt by omega] at this
  exact this
theorem own_zd {y : Int32} (h : ¬ y = 0) : ¬ DZero (i2d y) := fun z => by
  have hi := i2d_int y
  obtain ⟨s, q, e⟩ := z
  unfold DInt at hi; rw [e] at hi
  exact h (Int32.toInt_inj.mp ((whole_zero hi).mp rfl))
theorem own_nnI {i : Int} {a : UInt64} (h : DInt i a) : val64 a ≠ .nan := fun q => by
  unfold DInt at h; rw [q] at h; exact h
theorem own_cmpI {i : Int} {a b : UInt64} (ha : DInt i a) (hb : DInt i b) : Jvm.FP.dcmp a b = some .eq := by
  rw [show Jvm.FP.dcmp a b = some (compare i i) from dcmp_int ha hb, compare_self_int]
end Own
namespace Jvm.Pilot.@@N@@
open Jvm Jvm.ClassFile Sem Op Lib Jvm.Free Jvm.Stand Jvm.LawKit Jvm.RoadKit Bundle Jvm.Pilot.@@N@@.Jvm.D
theorem own_stak {Z : State} {h h' : Heap} {C n d : String} {v : Value} {ws : List Addr} (F : Sta Z h C n d v) (K : Keep h h' ws) (q : ∀ x ∈ ws, ∀ c : Cell, h[x]? = some c → c.vm.isStatics = false) : Sta Z h' C n d v := by
  obtain ⟨cf, i, k, f, st, cell, h1, h2, h3, h4, h5, h6, h7⟩ := F
  refine ⟨cf, i, k, f, st, cell, h1, h2, h3, h4, K.2.1 st cell h5 (fun hm => ?_), h6, h7⟩
  have e := q st hm cell h5
  rw [h6] at e; cases e
theorem own_exns {Z : State} {h : Heap} {a : Addr} {C : String} (E : Exa Z h a C) : ∀ c : Cell, h[a]? = some c → c.vm.isStatics = false := fun c hc => by
  obtain ⟨c', k, e1, -, -, e4, -⟩ := E
  cases hc.symm.trans e1; exact e4
theorem own_arns {Z : State} {h : Heap} {a : Addr} {k : ClassId} {ty : FieldType} {z : Int32} {vs : List Value} {d : Value} (A : Arv Z h a k ty z vs d) : ∀ c : Cell, h[a]? = some c → c.vm.isStatics = false := fun c hc => by
  obtain ⟨c', A', -⟩ := A
  have e := A'.plain
  cases hc.symm.trans A'.1; exact e
abbrev oS (p : Program) (e : Env) (below : List Frame) (T : State) (g : JFrame) (t : State) : Prop := Steps p.tables e below (T.setTop g) t
theorem own_w (i : Nat) {d : Jvm.Cond} (h : tables_1[i]? = some d) : d ∈ tables_1 := List.mem_of_getElem? h
abbrev own_Met (l : Launch) (y : MethodName) (bytes : ByteArray) (maxL : Nat) (ret : Option FieldType) (ws : List Jvm.Cond) (rm : Room) (as' : Array Value) (Z : State) (h0 : Heap) (Q : Option Value → Heap → List Loc → Prop) : Prop :=
  MetFree l y (head1 (Jvm.Cond.code y bytes maxL ret :: ws) rm) (fun aU U => aU = as' ∧ Z.Warmed39 U.vm ∧ U.heap = h0) (fun _ _ _ _ _ => True) (fun _ U oU U' => ∃ vU LU, oU = .returned vU ∧ Q vU U'.heap LU ∧ FrameEnd U oU U' LU rm.cells rm.slots)
theorem own_weak {l : Launch} {y : MethodName} {bytes : ByteArray} {maxL : Nat} {ret : Option FieldType} {ws : List Jvm.Cond} {rm : Room} {as' : Array Value} {Z : State} {h0 : Heap} {Q Q' : Option Value → Heap → List Loc → Prop} (h : own_Met l y bytes maxL ret ws rm as' Z h0 Q) (hq : ∀ v t L, Q v t L → Q' v t L) : own_Met l y bytes maxL ret ws rm as' Z h0 Q' := by
  intro p e ha hc hk s m args below hf happ hP hK
  obtain ⟨n, o, h1, h2, h3, v, L, h4, h5, h6⟩ := h p e ha hc hk s m args below hf happ hP hK
  exact ⟨n, o, h1, h2, h3, v, L, h4, hq _ _ _ h5, h6⟩
theorem own_start {p : Program} {l : Launch} {y : MethodName} {ws : List Jvm.Cond} {rm : Room} {code : ByteArray} {maxL : Nat} {ret : Option FieldType} {e : Env} {s : State} {m : MethodId} {args : Array Value} {below : List Frame} {meth : Method} {c : Code} {s₁ : State} {h0 : Heap}
    (Bd : BodyLoose p l y (head1 ws rm) code maxL ret e s m args below meth c s₁) (hml : c.maxLocals = maxL) (hh : s.heap = h0) :
    p.tables.exec = Jvm.exec ∧ c.code = code ∧ s.vm.findClass y.cls = some m.cls ∧ meth.name = y.name ∧ Stand p l e rm s m args below meth c s₁ [] 0 0 ∧ s₁.heap = h0 :=
  ⟨Bd.exec, Bd.bytes, findClass_of_methodNamed Bd.named, (name_of_methodNamed Bd.named Bd.method).1, Stand.of_body Bd, by rw [← hh, Bd.state]; rfl⟩
section OwnCalls
variable {p : Program} {l : Launch} {e : Env} {R : Room} {s : State} {m : MethodId} {args : Array Value} {below : List Frame} {meth : Method} {c : Code} {T : State} {locs : List Loc} {cells slots : Nat} {Z : State} {a0 : Array Value} {h : Heap}
  {own : String} {index : Nat} {y z : MethodName} {bytes : ByteArray} {maxL : Nat} {ret : Option FieldType} {rm : Room} {W : Nat} {as' : Array Value} {Q : Option Value → Heap → List Loc → Prop}
theorem own_callS (X : Stand p l e R s m args below meth c T locs cells slots) (hx : p.tables.exec = Jvm.exec) (hZ : Z.Warmed39 s.vm) (hown : s.vm.findClass own = some m.cls) (hlink : (Cond.methodLink own index y).before a0 Z = true) (hstat : (Cond.static y).before a0 Z = true) (hinit : (Cond.initialized y.cls).before a0 Z = true)
    (hcode : (Cond.code y bytes maxL ret).before a0 Z = true) (hy : y.cls ≠ "java/lang/invoke/MethodHandle" ∧ y.cls ≠ "java/lang/invoke/VarHandle")
    (hM : own_Met l y bytes maxL ret [] rm as' Z h Q)
    (hf : rm.frames + 1 ≤ R.frames) (hl : W + (maxL + 11) + rm.locals ≤ R.locals) {g : JFrame} (hg : g.method = m) (hsize : g.locals.size = c.maxLocals) {argsL rest : List Value} (hlen : ∀ sig, parseMethodDescriptor y.desc = some sig → argsL.length = sig.parameters.length)
    (hstack : g.stack = argsL.reverse ++ rest) (hdg : decode c.code g.pc = .ok (.invokestatic index, 3)) (has : argsL.toArray = as') (eT : T.heap = h) (hc : cells + rm.cells ≤ R.cells) (hs : slots + rm.slots ≤ R.slots) (hW : 2 * g.monitorRoom + (rest.map fun v => v.category).sum ≤ W := by show 2 * 0 + _ ≤ _; exact Nat.le_of_eq rfl) :
    ∃ (v : Option Value) (T' : State) (L : List Loc), Stand p l e R s m args below meth c T' (locs ++ L) (cells + rm.cells) (slots + rm.slots) ∧ Q v T'.heap L ∧ ∀ target, Steps p.tables e below (T'.setTop { g with pc := g.pc + 3, stack := v.toList ++ rest }) target → Steps p.tables e below (T.setTop g) target := by
  obtain ⟨v, _, ⟨T3, L3, k3, n3⟩, -, X3, ⟨Lc3, hQ3, l3, y3, z3⟩, st3⟩ := Jvm.LawKit.callS X hx hown (mvT hZ hlink) (mvT hZ hstat) (mvT hZ hinit) (mvT hZ hcode) hy (backOf (W := W) hM hZ hcode hinit hf hl) hg hsize hlen hstack hW hdg (fun _ _ => ⟨has, eT, hc, hs⟩)
  dsimp only [Pt.U, Pt.locs, Pt.cells, Pt.slots] at X3 l3 y3 z3 st3 hQ3
  subst l3 y3 z3
  exact ⟨v, T3, Lc3, X3, hQ3, st3⟩
theorem own_special (X : Stand p l e R s m args below meth c T locs cells slots) (hx : p.tables.exec = Jvm.exec) (hZ : Z.Warmed39 s.vm) (hy1 : y.name = "<init>") (hown : s.vm.findClass own = some m.cls) (hlink : (Cond.methodLink own index y).before a0 Z = true) (hinst : (Cond.instanceMethod y).before a0 Z = true)
    (hcode : (Cond.code y bytes maxL none).before a0 Z = true) (hinit : (Cond.initialized y.cls).before a0 Z = true) (hy : y.cls ≠ "java/lang/invoke/MethodHandle" ∧ y.cls ≠ "java/lang/invoke/VarHandle")
    (hM : own_Met l y bytes maxL none [] rm as' Z h Q)
    (hf : rm.frames + 1 ≤ R.frames) (hl : W + (maxL + 11) + rm.locals ≤ R.locals) {g : JFrame} (hg : g.method = m) (hsize : g.locals.size = c.maxLocals) {a : Addr} {argsL rest : List Value} (hlen : ∀ sig, parseMethodDescriptor y.desc = some sig → argsL.length = sig.parameters.length)
    (hstack : g.stack = argsL.reverse ++ .ref a :: rest) (hdg : decode c.code g.pc = .ok (.invokespecial index, 3)) (has : (.ref a :: argsL).toArray = as') (eT : T.heap = h) (hc : cells + rm.cells ≤ R.cells) (hs : slots + rm.slots ≤ R.slots) (hW : 2 * g.monitorRoom + (rest.map fun v => v.category).sum ≤ W := by show 2 * 0 + _ ≤ _; exact Nat.le_of_eq rfl) :
    ∃ (v : Option Value) (T' : State) (L : List Loc), Stand p l e R s m args below meth c T' (locs ++ L) (cells + rm.cells) (slots + rm.slots) ∧ Q v T'.heap L ∧ ∀ target, Steps p.tables e below (T'.setTop { g with pc := g.pc + 3, stack := v.toList ++ rest }) target → Steps p.tables e below (T.setTop g) target := by
  obtain ⟨v, _, ⟨T3, L3, k3, n3⟩, -, X3, ⟨Lc3, hQ3, l3, y3, z3⟩, st3⟩ := X.specialBack hx hy1 hown (mvT hZ hlink) (mvT hZ hinst) (mvT hZ hcode) hy (backOf (W := W) hM hZ hcode hinit hf hl) hg hsize (Steps.refl _) hlen hstack hW hdg (fun _ _ => ⟨has, eT, hc, hs⟩)
  dsimp only [Pt.U, Pt.locs, Pt.cells, Pt.slots] at X3 l3 y3 z3 st3 hQ3
  subst l3 y3 z3
  exact ⟨v, T3, Lc3, X3, hQ3, fun target k => st3.trans k⟩
theorem own_virtual (X : Stand p l e R s m args below meth c T locs cells slots) (hx : p.tables.exec = Jvm.exec) (hZ : Z.Warmed39 s.vm) {C : String} (hown : s.vm.findClass own = some m.cls) (hlink : (Cond.methodLink own index y).before a0 Z = true) (hdecl : (Cond.declares y).before a0 Z = true) (hnf : NotFace s y) (hsel : (Cond.selects C y z).before a0 Z = true) (hinst : (Cond.instanceMethod z).before a0 Z = true)
    (hcode : (Cond.code z bytes maxL ret).before a0 Z = true) (hinit : (Cond.initialized z.cls).before a0 Z = true) (hy : y.cls ≠ "java/lang/invoke/MethodHandle" ∧ y.cls ≠ "java/lang/invoke/VarHandle")
    (hM : own_Met l z bytes maxL ret [] rm as' Z h Q)
    (hf : rm.frames + 1 ≤ R.frames) (hl : W + (maxL + 11) + rm.locals ≤ R.locals) {a : Addr} (E : Exa Z h a C) {g : JFrame} (hg : g.method = m) (hsize : g.locals.size = c.maxLocals) {argsL rest : List Value} (hlen : ∀ sig, parseMethodDescriptor y.desc = some sig → argsL.length = sig.parameters.length)
    (hstack : g.stack = argsL.reverse ++ .ref a :: rest) (hdg : decode c.code g.pc = .ok (.invokevirtual index, 3)) (has : (.ref a :: argsL).toArray = as') (eT : T.heap = h) (hc : cells + rm.cells ≤ R.cells) (hs : slots + rm.slots ≤ R.slots) (hW : 2 * g.monitorRoom + (rest.map fun v => v.category).sum ≤ W := by show 2 * 0 + _ ≤ _; exact Nat.le_of_eq rfl) :
    ∃ (v : Option Value) (T' : State) (L : List Loc), Stand p l e R s m args below meth c T' (locs ++ L) (cells + rm.cells) (slots + rm.slots) ∧ Q v T'.heap L ∧ ∀ target, Steps p.tables e below (T'.setTop { g with pc := g.pc + 3, stack := v.toList ++ rest }) target → Steps p.tables e below (T.setTop g) target := by
  obtain ⟨cq, kq, qa, qb, qc⟩ := isOf hZ eT E
  obtain ⟨v, _, ⟨T3, L3, k3, n3⟩, -, X3, ⟨Lc3, hQ3, l3, y3, z3⟩, st3⟩ := X.virtualBack hx hown (mvT hZ hlink) (mvT hZ hdecl) hnf (mvT hZ hsel) (mvT hZ hinst) hy (backOf (W := W) hM hZ hcode hinit hf hl) qa qc hg hsize (Steps.refl _) hlen hstack hW hdg (fun _ _ => ⟨has, eT, hc, hs⟩)
  dsimp only [Pt.U, Pt.locs, Pt.cells, Pt.slots] at X3 l3 y3 z3 st3 hQ3
  subst l3 y3 z3
  exact ⟨v, T3, Lc3, X3, hQ3, fun target k => st3.trans k⟩
end OwnCalls
abbrev mN0 : MethodName := ⟨"java/util/OptionalDouble", "<init>", "(D)V"⟩
abbrev mN1 : MethodName := ⟨"java/util/OptionalDouble", "of", "(D)Ljava/util/OptionalDouble;"⟩
abbrev mN2 : MethodName := ⟨"java/util/OptionalDouble", "empty", "()Ljava/util/OptionalDouble;"⟩
abbrev mN3 : MethodName := ⟨"java/util/OptionalDouble", "isPresent", "()Z"⟩
abbrev mN4 : MethodName := ⟨"java/util/OptionalDouble", "getAsDouble", "()D"⟩
abbrev mN5 : MethodName := ⟨"java/lang/Record", "<init>", "()V"⟩
abbrev mN6 : MethodName := ⟨"com/example/graftwork/graftwork/simulate/Summary", "<init>", "(DIIDDIDD)V"⟩
abbrev mN7 : MethodName := ⟨"com/example/graftwork/graftwork/simulate/SummaryAcceptanceRatioPinLaw", "make", "(II)Lcom/example/graftwork/graftwork/simulate/Summary;"⟩
abbrev mN8 : MethodName := ⟨"com/example/graftwork/graftwork/simulate/Summary", "acceptanceRatio", "()Ljava/util/OptionalDouble;"⟩
def own_o : Int32 := 1
theorem own_opos : 0 < own_o.toInt := by decide
theorem own_ole : ¬ (1073741823 : Int32) < own_o := by decide
def own_m (y : Int32) : Int32 := y &&& 2147483647
def own_r (y n : Int32) : Int32 := ((own_m y).toInt64 - ((own_m y).toInt64 / (n.toInt64 + 1)) * (n.toInt64 + 1)).toInt32
def own_kk (y : Int32) : Int32 := (XT.ushr y 1) - ((XT.ushr y 1) / 31) * 31
def own_pp (y : Int32) : Int32 := 1 <<< (own_kk y &&& 31)
theorem own_mv (y : Int32) : 0 ≤ (own_m y).toInt ∧ (own_m y).toInt < 2147483648 := by
  unfold own_m; rw [c_mask y 2147483647 31 (by decide) (by decide)]; omega
theorem own_mpos {y : Int32} (h : ¬ own_m y = 0) : 0 < (own_m y).toInt := by
  have h1 := own_mv y
  have h2 : (own_m y).toInt ≠ 0 := fun q => h (Int32.toInt_inj.mp q)
  omega
theorem own_n1 {n : Int32} (hn : 0 < n.toInt) : (n.toInt64 + 1).toInt = n.toInt + 1 := by
  have h := c_ladd n.toInt64 1
  rw [c_i2l, show (1 : Int64).toInt = 1 from rfl] at h
  have h1 := rng64 (n.toInt64 + 1)
  have h2 := rng32 n
  omega
theorem own_lnz {n : Int32} (hn : 0 < n.toInt) : ¬ n.toInt64 + 1 = 0 := fun q => by
  have := own_n1 hn; rw [q] at this
  rw [show (0 : Int64).toInt = 0 from rfl] at this; omega
theorem own_rv (y : Int32) {n : Int32} (hn : 0 < n.toInt) : 0 ≤ (own_r y n).toInt ∧ (own_r y n).toInt ≤ n.toInt := by
  have h1 := own_mv y
  have h2 := own_n1 hn
  have h3 := (c_lrem (own_m y).toInt64 (n.toInt64 + 1) _ h2).1 (by rw [c_i2l]; exact h1.1)
  have h4 := c_l2i ((own_m y).toInt64 - ((own_m y).toInt64 / (n.toInt64 + 1)) * (n.toInt64 + 1))
  have h5 := rng32 (own_r y n)
  have h6 := rng32 n
  have h7 := Int.emod_nonneg (own_m y).toInt64.toInt (b := n.toInt + 1) (by omega)
  have h8 := Int.emod_lt_of_pos (own_m y).toInt64.toInt (b := n.toInt + 1) (by omega)
  unfold own_r at *
  omega
theorem own_kv (y : Int32) : 0 ≤ (own_kk y).toInt ∧ (own_kk y).toInt < 31 := by
  have h4 : (XT.ushr y 1).toInt = (y.toInt % 4294967296) / (2 ^ 1 : Nat) := c_iushr y 1 1 (by decide) (by decide)
  unfold own_kk; rw [irem_eq_mod]
  have h := (c_irem (XT.ushr y 1) 31 31 rfl).1 (by omega)
  omega
theorem own_sh : ∀ j : Nat, j < 31 → ((1 : Int32) <<< (Int32.ofNat j &&& 31)).toInt = ((2 ^ j : Nat) : Int) := by decide +kernel
theorem own_pv (y : Int32) : ∃ j : Nat, j ≤ 30 ∧ (own_pp y).toInt = ((2 ^ j : Nat) : Int) := by
  have h := own_kv y
  refine ⟨(own_kk y).toInt.toNat, by omega, ?_⟩
  have e : own_kk y = Int32.ofNat (own_kk y).toInt.toNat := by
    rw [← Int32.toInt_inj, Int32.toInt_ofNat_of_lt (by omega)]; omega
  unfold own_pp
  conv => lhs; rw [e]
  exact own_sh _ (by omega)
theorem own_ppos (y : Int32) : 0 < (own_pp y).toInt := by
  obtain ⟨j, -, e⟩ := own_pv y
  have := Nat.two_pow_pos j
  rw [e]; omega
theorem own_pnz {n : Int32} (h : 0 < n.toInt) : ¬ n = 0 := fun q => by rw [q] at h; exact absurd h (by decide)
theorem own_nnd (y : Int32) {n : Int32} (h : ¬ n = 0) : Jvm.Free.Fl.NoNaN64 (FP.ddiv (FP.i2d y) (FP.i2d n)) :=
  Jvm.Free.Fl.ddiv_out ((Jvm.Free.Fl.i2d_mag y).fin (by decide)).noNaN ((Jvm.Free.Fl.i2d_mag n).fin (by decide)) (Jvm.Free.Fl.nz64_core.mpr (Own.own_zd h))
theorem own_t0 {a n : Int32} (ha : 0 ≤ a.toInt ∧ a.toInt ≤ n.toInt) (hn : 0 < n.toInt) : ¬ cmpValue (FP.dcmp (FP.ddiv (FP.i2d a) (FP.i2d n)) FP.dconst0) .l < 0 := by
  rw [show FP.dcmp (FP.ddiv (FP.i2d a) (FP.i2d n)) FP.dconst0 = _ from Own.own_q0 ha.1 ha.2 hn]
  rcases Int.lt_or_eq_of_le ha.1 with q | q
  · rw [Int.compare_eq_gt.mpr q]; decide
  · rw [← q, Jvm.FP.Core.compare_self_int]; decide
theorem own_t1 {a n : Int32} (ha : 0 ≤ a.toInt ∧ a.toInt ≤ n.toInt) (hn : 0 < n.toInt) : ¬ 0 < cmpValue (FP.dcmp (FP.ddiv (FP.i2d a) (FP.i2d n)) FP.dconst1) .g := by
  rw [show FP.dcmp (FP.ddiv (FP.i2d a) (FP.i2d n)) FP.dconst1 = _ from Own.own_q1 ha.1 ha.2 hn]
  rcases Int.lt_or_eq_of_le ha.2 with q | q
  · rw [Int.compare_eq_lt.mpr q]; decide
  · rw [q, Jvm.FP.Core.compare_self_int]; decide
theorem own_z0 {a n : Int32} (ha : 0 ≤ a.toInt ∧ a.toInt ≤ n.toInt) (hn : 0 < n.toInt) : cmpValue (FP.dcmp (FP.ddiv (FP.i2d a) (FP.i2d n)) FP.dconst0) .l = 0 ↔ a = 0 := by
  rw [show FP.dcmp (FP.ddiv (FP.i2d a) (FP.i2d n)) FP.dconst0 = _ from Own.own_q0 ha.1 ha.2 hn]
  constructor
  · intro h
    rcases Int.lt_or_eq_of_le ha.1 with q | q
    · rw [Int.compare_eq_gt.mpr q] at h; exact absurd h (by decide)
    · exact Int32.toInt_inj.mp q.symm
  · intro h; subst h; decide
theorem own_z1 {a n : Int32} (ha : 0 ≤ a.toInt ∧ a.toInt ≤ n.toInt) (hn : 0 < n.toInt) : cmpValue (FP.dcmp (FP.ddiv (FP.i2d a) (FP.i2d n)) FP.dconst1) .l = 0 ↔ a = n := by
  rw [show FP.dcmp (FP.ddiv (FP.i2d a) (FP.i2d n)) FP.dconst1 = _ from Own.own_q1 ha.1 ha.2 hn]
  constructor
  · intro h
    rcases Int.lt_or_eq_of_le ha.2 with q | q
    · rw [Int.compare_eq_lt.mpr q] at h; exact absurd h (by decide)
    · exact Int32.toInt_inj.mp q
  · intro h; subst h; rw [Jvm.FP.Core.compare_self_int]; decide
theorem own_tl {a b n : Int32} (ha : 0 ≤ a.toInt ∧ a.toInt ≤ n.toInt) (hb : 0 ≤ b.toInt ∧ b.toInt ≤ n.toInt) (hn : 0 < n.toInt) : cmpValue (FP.dcmp (FP.ddiv (FP.i2d a) (FP.i2d n)) (FP.ddiv (FP.i2d b) (FP.i2d n))) .g < 0 ↔ a < b := by
  rw [show FP.dcmp (FP.ddiv (FP.i2d a) (FP.i2d n)) (FP.ddiv (FP.i2d b) (FP.i2d n)) = _ from Own.own_qc ha.1 ha.2 hb.1 hb.2 hn, Int32.lt_iff_toInt_lt (x := a)]
  rcases Int.lt_trichotomy a.toInt b.toInt with q | q | q
  · rw [Int.compare_eq_lt.mpr q]; simp [q]; decide
  · rw [q, Jvm.FP.Core.compare_self_int]; simp; decide
  · rw [Int.compare_eq_gt.mpr q]; simp [show ¬ a.toInt < b.toInt by omega]; decide
theorem own_te {a b n : Int32} (ha : 0 ≤ a.toInt ∧ a.toInt ≤ n.toInt) (hb : 0 ≤ b.toInt ∧ b.toInt ≤ n.toInt) (hn : 0 < n.toInt) : cmpValue (FP.dcmp (FP.ddiv (FP.i2d a) (FP.i2d n)) (FP.ddiv (FP.i2d b) (FP.i2d n))) .l = 0 ↔ a = b := by
  rw [show FP.dcmp (FP.ddiv (FP.i2d a) (FP.i2d n)) (FP.ddiv (FP.i2d b) (FP.i2d n)) = _ from Own.own_qc ha.1 ha.2 hb.1 hb.2 hn, ← Int32.toInt_inj (x := a)]
  rcases Int.lt_trichotomy a.toInt b.toInt with q | q | q
  · rw [Int.compare_eq_lt.mpr q]; simp [show ¬ a.toInt = b.toInt by omega]; decide
  · rw [q, Jvm.FP.Core.compare_self_int]; simp; decide
  · rw [Int.compare_eq_gt.mpr q]; simp [show ¬ a.toInt = b.toInt by omega]; decide
theorem own_two {y : Int32} (h0 : 0 ≤ y.toInt) (h : y.toInt ≤ 1073741823) : ((2 : Int32) * y).toInt = 2 * y.toInt := by
  have h1 := c_imul 2 y
  rw [show (2 : Int32).toInt = 2 from rfl] at h1
  have h2 := rng32 (2 * y)
  omega
theorem own_e0 {x y : UInt64} (h : FP.dcmp x y = some .eq) : cmpValue (FP.dcmp x y) .l = 0 := by rw [h]; rfl
theorem own_t2 {a n : Int32} (ha : 0 ≤ a.toInt ∧ a.toInt ≤ n.toInt) (hn : 0 < n.toInt) (h : ¬ (1073741823 : Int32) < n) : cmpValue (FP.dcmp (FP.ddiv (FP.i2d ((2 : Int32) * a)) (FP.i2d ((2 : Int32) * n))) (FP.ddiv (FP.i2d a) (FP.i2d n))) .l = 0 := by
  rw [Int32.lt_iff_toInt_lt, show (1073741823 : Int32).toInt = 1073741823 from rfl] at h
  exact own_e0 (Own.own_q2 ha.1 ha.2 hn (own_two ha.1 (by omega)) (own_two (by omega) (by omega)))
theorem own_2nz {n : Int32} (hn : 0 < n.toInt) (h : ¬ (1073741823 : Int32) < n) : ¬ (2 : Int32) * n = 0 := by
  rw [Int32.lt_iff_toInt_lt, show (1073741823 : Int32).toInt = 1073741823 from rfl] at h
  have := own_two (y := n) (by omega) (by omega)
  exact own_pnz (by omega)
theorem own_bk (y z : Int32) : Jvm.FP.Core.DInt (own_r y (own_pp z)).toInt (FP.dmul (FP.ddiv (FP.i2d (own_r y (own_pp z))) (FP.i2d (own_pp z))) (FP.i2d (own_pp z))) := by
  obtain ⟨j, hj, e⟩ := own_pv z
  exact Own.own_qb hj (own_rv y (own_ppos z)).1 e
theorem d9_0 : decode jdk_2648_method_3_code 0 = .ok (.aload_n 0, 1) := by decide +kernel
theorem d9_1 : decode jdk_2648_method_3_code 1 = .ok (.invokespecial 1, 3) := by decide +kernel
theorem d9_4 : decode jdk_2648_method_3_code 4 = .ok (.aload_n 0, 1) := by decide +kernel
theorem d9_5 : decode jdk_2648_method_3_code 5 = .ok (.iconst 1, 1) := by decide +kernel
theorem d9_6 : decode jdk_2648_method_3_code 6 = .ok (.putfield 7, 3) := by decide +kernel
theorem d9_9 : decode jdk_2648_method_3_code 9 = .ok (.aload_n 0, 1) := by decide +kernel
theorem d9_10 : decode jdk_2648_method_3_code 10 = .ok (.dload_n 1, 1) := by decide +kernel
theorem d9_11 : decode jdk_2648_method_3_code 11 = .ok (.putfield 17, 3) := by decide +kernel
theorem d9_14 : decode jdk_2648_method_3_code 14 = .ok (.return_, 1) := by decide +kernel
theorem pn_OptionalDouble : plainName "java/util/OptionalDouble" = true := by first | (simp [plainName, overriddenIn]; done) | decide +kernel
def QrmOI (Z : State) (a0 : Addr) (d1 : UInt64) (h0 : Heap) (n0 : Nat) (v : Option Value) (h : Heap) (L : List Loc) : Prop := v = none ∧ Fr n0 L ∧ Keep h0 h [a0] ∧ Fld Z h a0 "java/util/OptionalDouble" "isPresent" "Z" (.int (1 : Int32)) ∧ Fld Z h a0 "java/util/OptionalDouble" "value" "D" (.double d1)
set_option maxRecDepth 65536 in
set_option maxHeartbeats 40000000 in
theorem rmOI (l : Launch) (Z : State) (av0 : Array Value) (hw : ∀ d ∈ tables_1, d.before av0 Z = true) (ws : List Jvm.Cond) (a0 : Addr) (d1 : UInt64) (h0 : Heap) (n0 : Nat) (Z0 : n0 ≤ h0.size) (hE : Exa Z h0 a0 "java/util/OptionalDouble") (hI : Fld Z h0 a0 "java/util/OptionalDouble" "isPresent" "Z" (.int (0 : Int32))) (hV : Fld Z h0 a0 "java/util/OptionalDouble" "value" "D" (.double (0 : UInt64))) (hge : n0 ≤ a0) :
    own_Met l mN0 jdk_2648_method_3_code 3 none ws ({ frames := 1, cells := 0, slots := 0, locals := 12 } : Room) #[(.ref a0), (.double d1)] Z h0 (QrmOI Z a0 d1 h0 n0) := by
  refine MetFree.of_bodySF (plainFor_of_name pn_OptionalDouble) hisR ?_
  intro p e s m args below meth c s₁ Bd hml0 hP hK
  obtain ⟨rfl, hZ, hh⟩ := hP
  have hml : c.maxLocals = 3 := hml0
  obtain ⟨hx, hby, hown, hnm, X0, e0⟩ := own_start Bd hml0 hh
  have N0 := Fr.nil n0
  have pre0 : ∀ tz, oS p e below s₁ (mkF m 0 #[rv a0, .val (.double d1), .second] []) tz → Steps p.tables e below (s₁.setTop (entryFrame m #[(.ref a0), (.double d1)] 3)) tz := fun tz kz => castTop (by first | (simp [entryFrame, mkF, argsToLocals, Value.category]; done) | rfl) kz
  obtain ⟨T1, X1, e1, st1⟩ := initO X0 hx hZ hown (hw _ (own_w 61 rfl)) (hw _ (own_w 16 rfl)) (hw _ (own_w 17 rfl)) e0 (g := (mkF m 1 #[rv a0, .val (.double d1), .second] [(.ref a0)])) rfl (by rw [hml]; rfl) rfl (hb hby d9_1) (by decide) (W := 0) (by show 2 * 0 + _ ≤ _; exact Nat.le_of_eq rfl) (by decide)
  obtain ⟨T2, h2, X2, e2, W2, st2⟩ := putFN X1 hx hZ hown (hw _ (own_w 49 rfl)) Via.refl e1 hI hE (Or.inr ⟨(hw _ (own_w 50 rfl)), rfl, hnm⟩) (hw _ (own_w 56 rfl)) (ty := .boolean) (v' := (.int 1)) (by decide) rfl rfl (g := (mkF m 6 #[rv a0, .val (.double d1), .second] [(.int 1), (.ref a0)])) rfl rfl (hb hby d9_6)
  have N2 := Fr.snoc X2 N0 hge
  have Z2 : n0 ≤ h2.size := Nat.le_trans Z0 (Nat.le_of_eq W2.size.symm)
  have K2 : Keep h0 h2 [a0] := (Keep.refl h0 [a0]).wr W2 (Or.inl (List.mem_of_getElem? (i := 0) rfl))
  have Fw2 := hI.same W2
  have f3 := (hV.other W2 (Or.inr (slot_ne (Or.inr (hw _ (own_w 63 rfl))) (Or.inr (hw _ (own_w 50 rfl))) (by decide) (t := .double) (t' := .boolean) (by decide) (by decide))))
  have f4 := (hE.wr W2)
  obtain ⟨T5, h5, X5, e5, W5, st5⟩ := putF X2 hx hZ hown (host := "") (Or.inl (hw _ (own_w 62 rfl))) Via.refl e2 f3 f4 (Or.inr ⟨(hw _ (own_w 63 rfl)), rfl, hnm⟩) (hw _ (own_w 56 rfl)) (ty := .double) (by decide) rfl rfl (g := (mkF m 11 #[rv a0, .val (.double d1), .second] [(.double d1), (.ref a0)])) rfl rfl (hb hby d9_11)
  have N5 := Fr.snoc X5 N2 hge
  have Z5 : n0 ≤ h5.size := Nat.le_trans Z2 (Nat.le_of_eq W5.size.symm)
  have K5 : Keep h0 h5 [a0] := K2.wr W5 (Or.inl (List.mem_of_getElem? (i := 0) rfl))
  have Fw5 := f3.same W5
  have S6 : ∀ tz, oS p e below T5 (mkF m 14 #[rv a0, .val (.double d1), .second] []) tz → oS p e below s₁ (mkF m 0 #[rv a0, .val (.double d1), .second] []) tz := fun tz kz => id (by
    show oS p e below s₁ (mkF m 0 #[rv a0, .val (.double d1), .second] []) _
    refine XS.aloadN X0.here hx rfl (hb hby d9_0) rfl rfl ?_
    refine st1 _ ?_
    refine XS.aloadN X1.here hx rfl (hb hby d9_4) rfl rfl ?_
    refine XT.iconstV X1.here hx rfl (1 : Int32) (hb hby d9_5) (by decide) ?_
    refine st2 _ ?_
    refine XS.aloadN X2.here hx rfl (hb hby d9_9) rfl rfl ?_
    refine XS.dloadN X2.here hx rfl (hb hby d9_10) rfl ?_
    refine st5 _ ?_
    exact kz)
  obtain ⟨fs, hr, hrun, hended, hW, hsame⟩ := X5.leave (v := none) (fun _ => rfl)
  refine ⟨_, _, pre0 _ (S6 _ ?_), hrun, hended, _, _, rfl, ?_, ⟨_, rfl⟩, hW, hsame.mono (by decide) (by decide)⟩
  · exact X5.returnOut hx Bd.returns (hb hby d9_14) hr
  have f7 := (Fw2.other W5 (Or.inr (slot_ne (Or.inr (hw _ (own_w 50 rfl))) (Or.inr (hw _ (own_w 63 rfl))) (by decide) (t := .boolean) (t' := .double) (by decide) (by decide))))
  · show QrmOI Z a0 d1 h0 n0 _ T5.heap _
    rw [e5]
    exact ⟨rfl, N5, K5, f7, Fw5⟩
theorem d8_0 : decode jdk_2648_method_4_code 0 = .ok (.new 8, 3) := by decide +kernel
theorem d8_3 : decode jdk_2648_method_4_code 3 = .ok (.dup, 1) := by decide +kernel
theorem d8_4 : decode jdk_2648_method_4_code 4 = .ok (.dload_n 0, 1) := by decide +kernel
theorem d8_5 : decode jdk_2648_method_4_code 5 = .ok (.invokespecial 25, 3) := by decide +kernel
theorem d8_8 : decode jdk_2648_method_4_code 8 = .ok (.areturn, 1) := by decide +kernel
theorem pd__D_V : parseMethodDescriptor "(D)V" = some ⟨[.double], none⟩ := by decide +kernel
def QrmOf (Z : State) (d0 : UInt64) (h0 : Heap) (n0 : Nat) (v : Option Value) (h : Heap) (L : List Loc) : Prop := ∃ b : Addr, v = some (.ref b) ∧ Fr n0 L ∧ h0.size ≤ b ∧ Keep h0 h [] ∧ Exa Z h b "java/util/OptionalDouble" ∧ Fld Z h b "java/util/OptionalDouble" "isPresent" "Z" (.int (1 : Int32)) ∧ Fld Z h b "java/util/OptionalDouble" "value" "D" (.double d0)
set_option maxRecDepth 65536 in
set_option maxHeartbeats 40000000 in
theorem rmOf (l : Launch) (Z : State) (av0 : Array Value) (hw : ∀ d ∈ tables_1, d.before av0 Z = true) (ws : List Jvm.Cond) (d0 : UInt64) (h0 : Heap) (n0 : Nat) (Z0 : n0 ≤ h0.size)  :
    own_Met l mN1 jdk_2648_method_4_code 2 (some (.object "java/util/OptionalDouble")) ws ({ frames := 2, cells := 1, slots := 2, locals := 27 } : Room) #[(.double d0)] Z h0 (QrmOf Z d0 h0 n0) := by
  refine MetFree.of_bodySF (plainFor_of_name pn_OptionalDouble) hisR ?_
  intro p e s m args below meth c s₁ Bd hml0 hP hK
  obtain ⟨rfl, hZ, hh⟩ := hP
  have hml : c.maxLocals = 2 := hml0
  obtain ⟨hx, hby, hown, hnm, X0, e0⟩ := own_start Bd hml0 hh
  have N0 := Fr.nil n0
  have pre0 : ∀ tz, oS p e below s₁ (mkF m 0 #[.val (.double d0), .second] []) tz → Steps p.tables e below (s₁.setTop (entryFrame m #[(.double d0)] 2)) tz := fun tz kz => castTop (by first | (simp [entryFrame, mkF, argsToLocals, Value.category]; done) | rfl) kz
  obtain ⟨T1, h1, X1, e1, E1, A1, D1, -, st1⟩ := newO X0 hx hZ hown (hw _ (own_w 55 rfl)) (hw _ (own_w 56 rfl)) (hw _ (own_w 41 rfl)) e0 (g := (mkF m 0 #[.val (.double d0), .second] [])) rfl (hb hby d8_0) (by decide) (by decide)
  obtain ⟨b1, g1⟩ : ∃ z, z = h0.size := ⟨_, rfl⟩
  rw [← g1] at A1 D1 st1
  have ge_b1 : n0 ≤ b1 := Nat.le_trans Z0 (Nat.le_of_eq g1.symm)
  have sz_b1 : h0.size ≤ b1 := Nat.le_of_eq g1.symm
  have Z1 : n0 ≤ h1.size := Nat.le_trans Z0 E1.1
  have K1 : Keep h0 h1 [] := (Keep.refl h0 []).ext E1
  have F1_isPresent : Fld Z h1 b1 "java/util/OptionalDouble" "isPresent" "Z" (.int 0) := D1 (Or.inr (hw _ (own_w 50 rfl))) (ty := .boolean) (by decide)
  have F1_value : Fld Z h1 b1 "java/util/OptionalDouble" "value" "D" (defaultValue .double) := D1 (Or.inr (hw _ (own_w 63 rfl))) (ty := .double) (by decide)
  obtain ⟨_, T2, Lc2, X2, hQ2, st2⟩ := own_special (W := 1) (y := mN0) X1 hx hZ rfl hown (hw _ (own_w 57 rfl)) (hw _ (own_w 58 rfl)) (hw _ (own_w 60 rfl)) (hw _ (own_w 41 rfl)) (by decide) (rmOI l Z av0 hw [] b1 d0 h1 n0 Z1 A1 F1_isPresent F1_value ge_b1) (by decide) (by decide) (g := (mkF m 5 #[.val (.double d0), .second] [(.double d0), (.ref b1), (.ref b1)])) rfl (by rw [hml]; rfl) (a := b1) (argsL := [(.double d0)]) (rest := [(.ref b1)]) (lenOf pd__D_V rfl) rfl (hb hby d8_5) rfl e1 (by decide : 1 + 0 ≤ _) (by decide : 2 + 0 ≤ _)
  obtain ⟨rfl, N2q, K2, I2, V2⟩ := hQ2
  have N2 := Fr.app N0 N2q
  have e2 : T2.heap = T2.heap := rfl
  have Zk2 : n0 ≤ T2.heap.size := Nat.le_trans Z1 K2.1
  have Kk2 : Keep h0 T2.heap [] := K1.trans K2 (allS (Or.inr sz_b1) all0)
  have S3 : ∀ tz, oS p e below T2 (mkF m 8 #[.val (.double d0), .second] [(.ref b1)]) tz → oS p e below s₁ (mkF m 0 #[.val (.double d0), .second] []) tz := fun tz kz => id (by
    show oS p e below s₁ (mkF m 0 #[.val (.double d0), .second] []) _
    refine st1 _ ?_
    refine XS.dup X1.here hx rfl (hb hby d8_3) rfl rfl ?_
    refine XS.dloadN X1.here hx rfl (hb hby d8_4) rfl ?_
    refine st2 _ ?_
    exact kz)
  obtain ⟨fs, hr, hrun, hended, hW, hsame⟩ := X2.leave (v := some (.ref b1)) (fun h => by rw [Bd.returns] at h; cases h)
  refine ⟨_, _, pre0 _ (S3 _ ?_), hrun, hended, _, _, rfl, ?_, ⟨_, rfl⟩, hW, hsame.mono (by decide) (by decide)⟩
  · jvm_step X2.here [X2.here.top, hx, (hb hby d8_8), X2.method', Bd.returns, Value.isRef, FieldType.isReference]
    first | (intro acts; rw [hr _ acts rfl rfl rfl]) | rw [hr _ _ rfl rfl rfl]
    exact Steps.refl _
  have f4 := (A1.keep K2)
  · show QrmOf Z d0 h0 n0 _ T2.heap _
    rw [e2]
    exact ⟨_, rfl, N2, sz_b1, Kk2, f4, I2, V2⟩
theorem d6_0 : decode jdk_2648_method_2_code 0 = .ok (.getstatic 21, 3) := by decide +kernel
theorem d6_3 : decode jdk_2648_method_2_code 3 = .ok (.areturn, 1) := by decide +kernel
def QrmEm (Z : State) (aE : Addr) (h0 : Heap) (n0 : Nat) (v : Option Value) (h : Heap) (L : List Loc) : Prop := v = some (.ref aE) ∧ Fr n0 L ∧ h = h0
set_option maxRecDepth 65536 in
set_option maxHeartbeats 40000000 in
theorem rmEm (l : Launch) (Z : State) (av0 : Array Value) (hw : ∀ d ∈ tables_1, d.before av0 Z = true) (ws : List Jvm.Cond) (aE : Addr) (h0 : Heap) (n0 : Nat) (Z0 : n0 ≤ h0.size) (hS : Sta Z h0 "java/util/OptionalDouble" "EMPTY" "Ljava/util/OptionalDouble;" (.ref aE)) :
    own_Met l mN2 jdk_2648_method_2_code 0 (some (.object "java/util/OptionalDouble")) ws ({ frames := 0, cells := 0, slots := 0, locals := 0 } : Room) #[] Z h0 (QrmEm Z aE h0 n0) := by
  refine MetFree.of_bodySF (plainFor_of_name pn_OptionalDouble) hisR ?_
  intro p e s m args below meth c s₁ Bd hml0 hP hK
  obtain ⟨rfl, hZ, hh⟩ := hP
  have hml : c.maxLocals = 0 := hml0
  obtain ⟨hx, hby, hown, hnm, X0, e0⟩ := own_start Bd hml0 hh
  have N0 := Fr.nil n0
  have pre0 : ∀ tz, oS p e below s₁ (mkF m 0 #[] []) tz → Steps p.tables e below (s₁.setTop (entryFrame m #[] 0)) tz := fun tz kz => castTop (by first | (simp [entryFrame, mkF, argsToLocals, Value.category]; done) | rfl) kz
  obtain ⟨T1, X1, e1, st1⟩ := getS2 X0 hx hZ hown (host := "") (Or.inl (hw _ (own_w 43 rfl))) Via.refl e0 hS (g := (mkF m 0 #[] [])) rfl (hb hby d6_0)
  have S2 : ∀ tz, oS p e below T1 (mkF m 3 #[] [(.ref aE)]) tz → oS p e below s₁ (mkF m 0 #[] []) tz := fun tz kz => id (by
    show oS p e below s₁ (mkF m 0 #[] []) _
    refine st1 _ ?_
    exact kz)
  obtain ⟨fs, hr, hrun, hended, hW, hsame⟩ := X1.leave (v := some (.ref aE)) (fun h => by rw [Bd.returns] at h; cases h)
  refine ⟨_, _, pre0 _ (S2 _ ?_), hrun, hended, _, _, rfl, ?_, ⟨_, rfl⟩, hW, hsame.mono (by decide) (by decide)⟩
  · jvm_step X1.here [X1.here.top, hx, (hb hby d6_3), X1.method', Bd.returns, Value.isRef, FieldType.isReference]
    first | (intro acts; rw [hr _ acts rfl rfl rfl]) | rw [hr _ _ rfl rfl rfl]
    exact Steps.refl _
  · show QrmEm Z aE h0 n0 _ T1.heap _
    rw [e1]
    exact ⟨rfl, N0, rfl⟩
theorem d7_0 : decode jdk_2648_method_6_code 0 = .ok (.aload_n 0, 1) := by decide +kernel
theorem d7_1 : decode jdk_2648_method_6_code 1 = .ok (.getfield 7, 3) := by decide +kernel
theorem d7_4 : decode jdk_2648_method_6_code 4 = .ok (.ireturn, 1) := by decide +kernel
def QrmIs0 (Z : State) (a0 : Addr) (h0 : Heap) (n0 : Nat) (v : Option Value) (h : Heap) (L : List Loc) : Prop := v = some (.int (0 : Int32)) ∧ Fr n0 L ∧ h = h0
set_option maxRecDepth 65536 in
set_option maxHeartbeats 40000000 in
theorem rmIs0 (l : Launch) (Z : State) (av0 : Array Value) (hw : ∀ d ∈ tables_1, d.before av0 Z = true) (ws : List Jvm.Cond) (a0 : Addr) (h0 : Heap) (n0 : Nat) (Z0 : n0 ≤ h0.size) (hI : Fld Z h0 a0 "java/util/OptionalDouble" "isPresent" "Z" (.int (0 : Int32))) :
    own_Met l mN3 jdk_2648_method_6_code 1 (some .boolean) ws ({ frames := 0, cells := 0, slots := 0, locals := 0 } : Room) #[(.ref a0)] Z h0 (QrmIs0 Z a0 h0 n0) := by
  refine MetFree.of_bodySF (plainFor_of_name pn_OptionalDouble) hisR ?_
  intro p e s m args below meth c s₁ Bd hml0 hP hK
  obtain ⟨rfl, hZ, hh⟩ := hP
  have hml : c.maxLocals = 1 := hml0
  obtain ⟨hx, hby, hown, hnm, X0, e0⟩ := own_start Bd hml0 hh
  have N0 := Fr.nil n0
  have pre0 : ∀ tz, oS p e below s₁ (mkF m 0 #[rv a0] []) tz → Steps p.tables e below (s₁.setTop (entryFrame m #[(.ref a0)] 1)) tz := fun tz kz => castTop (by first | (simp [entryFrame, mkF, argsToLocals, Value.category]; done) | rfl) kz
  obtain ⟨T1, X1, e1, st1⟩ := getF X0 hx hZ hown (host := "") (Or.inl (hw _ (own_w 49 rfl))) Via.refl e0 hI (g := (mkF m 1 #[rv a0] [(.ref a0)])) rfl rfl (hb hby d7_1)
  have S2 : ∀ tz, oS p e below T1 (mkF m 4 #[rv a0] [(.int 0)]) tz → oS p e below s₁ (mkF m 0 #[rv a0] []) tz := fun tz kz => id (by
    show oS p e below s₁ (mkF m 0 #[rv a0] []) _
    refine XS.aloadN X0.here hx rfl (hb hby d7_0) rfl rfl ?_
    refine st1 _ ?_
    exact kz)
  obtain ⟨fs, hr, hrun, hended, hW, hsame⟩ := X1.leave (v := some (.int 0)) (fun h => by rw [Bd.returns] at h; cases h)
  refine ⟨_, _, pre0 _ (S2 _ ?_), hrun, hended, _, _, rfl, ?_, ⟨_, rfl⟩, hW, hsame.mono (by decide) (by decide)⟩
  · exact retN X1 hx (t := .boolean) Bd.returns (by simp) (hb hby d7_4) hr
  · show QrmIs0 Z a0 h0 n0 _ T1.heap _
    rw [e1]
    exact ⟨rfl, N0, rfl⟩
def QrmIs1 (Z : State) (a0 : Addr) (h0 : Heap) (n0 : Nat) (v : Option Value) (h : Heap) (L : List Loc) : Prop := v = some (.int (1 : Int32)) ∧ Fr n0 L ∧ h = h0
set_option maxRecDepth 65536 in
set_option maxHeartbeats 40000000 in
theorem rmIs1 (l : Launch) (Z : State) (av0 : Array Value) (hw : ∀ d ∈ tables_1, d.before av0 Z = true) (ws : List Jvm.Cond) (a0 : Addr) (h0 : Heap) (n0 : Nat) (Z0 : n0 ≤ h0.size) (hI : Fld Z h0 a0 "java/util/OptionalDouble" "isPresent" "Z" (.int (1 : Int32))) :
    own_Met l mN3 jdk_2648_method_6_code 1 (some .boolean) ws ({ frames := 0, cells := 0, slots := 0, locals := 0 } : Room) #[(.ref a0)] Z h0 (QrmIs1 Z a0 h0 n0) := by
  refine MetFree.of_bodySF (plainFor_of_name pn_OptionalDouble) hisR ?_
  intro p e s m args below meth c s₁ Bd hml0 hP hK
  obtain ⟨rfl, hZ, hh⟩ := hP
  have hml : c.maxLocals = 1 := hml0
  obtain ⟨hx, hby, hown, hnm, X0, e0⟩ := own_start Bd hml0 hh
  have N0 := Fr.nil n0
  have pre0 : ∀ tz, oS p e below s₁ (mkF m 0 #[rv a0] []) tz → Steps p.tables e below (s₁.setTop (entryFrame m #[(.ref a0)] 1)) tz := fun tz kz => castTop (by first | (simp [entryFrame, mkF, argsToLocals, Value.category]; done) | rfl) kz
  obtain ⟨T1, X1, e1, st1⟩ := getF X0 hx hZ hown (host := "") (Or.inl (hw _ (own_w 49 rfl))) Via.refl e0 hI (g := (mkF m 1 #[rv a0] [(.ref a0)])) rfl rfl (hb hby d7_1)
  have S2 : ∀ tz, oS p e below T1 (mkF m 4 #[rv a0] [(.int 1)]) tz → oS p e below s₁ (mkF m 0 #[rv a0] []) tz := fun tz kz => id (by
    show oS p e below s₁ (mkF m 0 #[rv a0] []) _
    refine XS.aloadN X0.here hx rfl (hb hby d7_0) rfl rfl ?_
    refine st1 _ ?_
    exact kz)
  obtain ⟨fs, hr, hrun, hended, hW, hsame⟩ := X1.leave (v := some (.int 1)) (fun h => by rw [Bd.returns] at h; cases h)
  refine ⟨_, _, pre0 _ (S2 _ ?_), hrun, hended, _, _, rfl, ?_, ⟨_, rfl⟩, hW, hsame.mono (by decide) (by decide)⟩
  · exact retN X1 hx (t := .boolean) Bd.returns (by simp) (hb hby d7_4) hr
  · show QrmIs1 Z a0 h0 n0 _ T1.heap _
    rw [e1]
    exact ⟨rfl, N0, rfl⟩
theorem d10_0 : decode jdk_2648_method_5_code 0 = .ok (.aload_n 0, 1) := by decide +kernel
theorem d10_1 : decode jdk_2648_method_5_code 1 = .ok (.getfield 7, 3) := by decide +kernel
theorem d10_4 : decode jdk_2648_method_5_code 4 = .ok (.ifCond .ne 13, 3) := by decide +kernel
theorem d10_17 : decode jdk_2648_method_5_code 17 = .ok (.aload_n 0, 1) := by decide +kernel
theorem d10_18 : decode jdk_2648_method_5_code 18 = .ok (.getfield 17, 3) := by decide +kernel
theorem d10_21 : decode jdk_2648_method_5_code 21 = .ok (.dreturn, 1) := by decide +kernel
def QrmGet (Z : State) (a0 : Addr) (dv : UInt64) (h0 : Heap) (n0 : Nat) (v : Option Value) (h : Heap) (L : List Loc) : Prop := v = some (.double dv) ∧ Fr n0 L ∧ h = h0
set_option maxRecDepth 65536 in
set_option maxHeartbeats 40000000 in
theorem rmGet (l : Launch) (Z : State) (av0 : Array Value) (hw : ∀ d ∈ tables_1, d.before av0 Z = true) (ws : List Jvm.Cond) (a0 : Addr) (dv : UInt64) (h0 : Heap) (n0 : Nat) (Z0 : n0 ≤ h0.size) (hI : Fld Z h0 a0 "java/util/OptionalDouble" "isPresent" "Z" (.int (1 : Int32))) (hV : Fld Z h0 a0 "java/util/OptionalDouble" "value" "D" (.double dv)) :
    own_Met l mN4 jdk_2648_method_5_code 1 (some .double) ws ({ frames := 0, cells := 0, slots := 0, locals := 0 } : Room) #[(.ref a0)] Z h0 (QrmGet Z a0 dv h0 n0) := by
  refine MetFree.of_bodySF (plainFor_of_name pn_OptionalDouble) hisR ?_
  intro p e s m args below meth c s₁ Bd hml0 hP hK
  obtain ⟨rfl, hZ, hh⟩ := hP
  have hml : c.maxLocals = 1 := hml0
  obtain ⟨hx, hby, hown, hnm, X0, e0⟩ := own_start Bd hml0 hh
  have N0 := Fr.nil n0
  have pre0 : ∀ tz, oS p e below s₁ (mkF m 0 #[rv a0] []) tz → Steps p.tables e below (s₁.setTop (entryFrame m #[(.ref a0)] 1)) tz := fun tz kz => castTop (by first | (simp [entryFrame, mkF, argsToLocals, Value.category]; done) | rfl) kz
  obtain ⟨T1, X1, e1, st1⟩ := getF X0 hx hZ hown (host := "") (Or.inl (hw _ (own_w 49 rfl))) Via.refl e0 hI (g := (mkF m 1 #[rv a0] [(.ref a0)])) rfl rfl (hb hby d10_1)
  obtain ⟨T2, X2, e2, st2⟩ := getF X1 hx hZ hown (host := "") (Or.inl (hw _ (own_w 62 rfl))) Via.refl e1 hV (g := (mkF m 18 #[rv a0] [(.ref a0)])) rfl rfl (hb hby d10_18)
  have S3 : ∀ tz, oS p e below T2 (mkF m 21 #[rv a0] [(.double dv)]) tz → oS p e below s₁ (mkF m 0 #[rv a0] []) tz := fun tz kz => id (by
    show oS p e below s₁ (mkF m 0 #[rv a0] []) _
    refine XS.aloadN X0.here hx rfl (hb hby d10_0) rfl rfl ?_
    refine st1 _ ?_
    refine XS.ifYes X1.here hx rfl (pc0 := 4) (pc' := 17) rfl (hb hby d10_4) rfl (XT.i0_ne_t (by decide)) (by decide) (by decide) ?_
    refine XS.aloadN X1.here hx rfl (hb hby d10_17) rfl rfl ?_
    refine st2 _ ?_
    exact kz)
  obtain ⟨fs, hr, hrun, hended, hW, hsame⟩ := X2.leave (v := some (.double dv)) (fun h => by rw [Bd.returns] at h; cases h)
  refine ⟨_, _, pre0 _ (S3 _ ?_), hrun, hended, _, _, rfl, ?_, ⟨_, rfl⟩, hW, hsame.mono (by decide) (by decide)⟩
  · jvm_step X2.here [X2.here.top, hx, (hb hby d10_21), X2.method', Bd.returns, narrow]
    first | (intro acts; rw [hr _ acts rfl rfl rfl]) | (refine ⟨meth, X2.method', ⟨_, Bd.returns, rfl⟩, fun acts => ?_⟩; rw [hr _ acts rfl rfl rfl])
    exact Steps.refl _
  · show QrmGet Z a0 dv h0 n0 _ T2.heap _
    rw [e2]
    exact ⟨rfl, N0, rfl⟩
theorem d3_0 : decode jdk_30_method_1_code 0 = .ok (.aload_n 0, 1) := by decide +kernel
theorem d3_1 : decode jdk_30_method_1_code 1 = .ok (.invokespecial 1, 3) := by decide +kernel
theorem d3_4 : decode jdk_30_method_1_code 4 = .ok (.return_, 1) := by decide +kernel
theorem pn_Record : plainName "java/lang/Record" = true := by first | (simp [plainName, overriddenIn]; done) | decide +kernel
def QrmRec (Z : State) (a0 : Addr) (h0 : Heap) (n0 : Nat) (v : Option Value) (h : Heap) (L : List Loc) : Prop := v = none ∧ Fr n0 L ∧ h = h0
set_option maxRecDepth 65536 in
set_option maxHeartbeats 40000000 in
theorem rmRec (l : Launch) (Z : State) (av0 : Array Value) (hw : ∀ d ∈ tables_1, d.before av0 Z = true) (ws : List Jvm.Cond) (a0 : Addr) (h0 : Heap) (n0 : Nat) (Z0 : n0 ≤ h0.size)  :
    own_Met l mN5 jdk_30_method_1_code 1 none ws ({ frames := 1, cells := 0, slots := 0, locals := 12 } : Room) #[(.ref a0)] Z h0 (QrmRec Z a0 h0 n0) := by
  refine MetFree.of_bodySF (plainFor_of_name pn_Record) hisR ?_
  intro p e s m args below meth c s₁ Bd hml0 hP hK
  obtain ⟨rfl, hZ, hh⟩ := hP
  have hml : c.maxLocals = 1 := hml0
  obtain ⟨hx, hby, hown, hnm, X0, e0⟩ := own_start Bd hml0 hh
  have N0 := Fr.nil n0
  have pre0 : ∀ tz, oS p e below s₁ (mkF m 0 #[rv a0] []) tz → Steps p.tables e below (s₁.setTop (entryFrame m #[(.ref a0)] 1)) tz := fun tz kz => castTop (by first | (simp [entryFrame, mkF, argsToLocals, Value.category]; done) | rfl) kz
  obtain ⟨T1, X1, e1, st1⟩ := initO X0 hx hZ hown (hw _ (own_w 15 rfl)) (hw _ (own_w 16 rfl)) (hw _ (own_w 17 rfl)) e0 (g := (mkF m 1 #[rv a0] [(.ref a0)])) rfl (by rw [hml]; rfl) rfl (hb hby d3_1) (by decide) (W := 0) (by show 2 * 0 + _ ≤ _; exact Nat.le_of_eq rfl) (by decide)
  have S2 : ∀ tz, oS p e below T1 (mkF m 4 #[rv a0] []) tz → oS p e below s₁ (mkF m 0 #[rv a0] []) tz := fun tz kz => id (by
    show oS p e below s₁ (mkF m 0 #[rv a0] []) _
    refine XS.aloadN X0.here hx rfl (hb hby d3_0) rfl rfl ?_
    refine st1 _ ?_
    exact kz)
  obtain ⟨fs, hr, hrun, hended, hW, hsame⟩ := X1.leave (v := none) (fun _ => rfl)
  refine ⟨_, _, pre0 _ (S2 _ ?_), hrun, hended, _, _, rfl, ?_, ⟨_, rfl⟩, hW, hsame.mono (by decide) (by decide)⟩
  · exact X1.returnOut hx Bd.returns (hb hby d3_4) hr
  · show QrmRec Z a0 h0 n0 _ T1.heap _
    rw [e1]
    exact ⟨rfl, N0, rfl⟩
theorem d2_0 : decode prog_53_method_1_code 0 = .ok (.aload_n 0, 1) := by decide +kernel
theorem d2_1 : decode prog_53_method_1_code 1 = .ok (.invokespecial 1, 3) := by decide +kernel
theorem d2_4 : decode prog_53_method_1_code 4 = .ok (.aload_n 0, 1) := by decide +kernel
theorem d2_5 : decode prog_53_method_1_code 5 = .ok (.dload_n 1, 1) := by decide +kernel
theorem d2_6 : decode prog_53_method_1_code 6 = .ok (.putfield 7, 3) := by decide +kernel
theorem d2_9 : decode prog_53_method_1_code 9 = .ok (.aload_n 0, 1) := by decide +kernel
theorem d2_10 : decode prog_53_method_1_code 10 = .ok (.iload_n 3, 1) := by decide +kernel
theorem d2_11 : decode prog_53_method_1_code 11 = .ok (.putfield 13, 3) := by decide +kernel
theorem d2_14 : decode prog_53_method_1_code 14 = .ok (.aload_n 0, 1) := by decide +kernel
theorem d2_15 : decode prog_53_method_1_code 15 = .ok (.iload 4, 2) := by decide +kernel
theorem d2_17 : decode prog_53_method_1_code 17 = .ok (.putfield 17, 3) := by decide +kernel
theorem d2_20 : decode prog_53_method_1_code 20 = .ok (.aload_n 0, 1) := by decide +kernel
theorem d2_21 : decode prog_53_method_1_code 21 = .ok (.dload 5, 2) := by decide +kernel
theorem d2_23 : decode prog_53_method_1_code 23 = .ok (.putfield 20, 3) := by decide +kernel
theorem d2_26 : decode prog_53_method_1_code 26 = .ok (.aload_n 0, 1) := by decide +kernel
theorem d2_27 : decode prog_53_method_1_code 27 = .ok (.dload 7, 2) := by decide +kernel
theorem d2_29 : decode prog_53_method_1_code 29 = .ok (.putfield 23, 3) := by decide +kernel
theorem d2_32 : decode prog_53_method_1_code 32 = .ok (.aload_n 0, 1) := by decide +kernel
theorem d2_33 : decode prog_53_method_1_code 33 = .ok (.iload 9, 2) := by decide +kernel
theorem d2_35 : decode prog_53_method_1_code 35 = .ok (.putfield 26, 3) := by decide +kernel
theorem d2_38 : decode prog_53_method_1_code 38 = .ok (.aload_n 0, 1) := by decide +kernel
theorem d2_39 : decode prog_53_method_1_code 39 = .ok (.dload 10, 2) := by decide +kernel
theorem d2_41 : decode prog_53_method_1_code 41 = .ok (.putfield 29, 3) := by decide +kernel
theorem d2_44 : decode prog_53_method_1_code 44 = .ok (.aload_n 0, 1) := by decide +kernel
theorem d2_45 : decode prog_53_method_1_code 45 = .ok (.dload 12, 2) := by decide +kernel
theorem d2_47 : decode prog_53_method_1_code 47 = .ok (.putfield 32, 3) := by decide +kernel
theorem d2_50 : decode prog_53_method_1_code 50 = .ok (.return_, 1) := by decide +kernel
theorem pn_Summary : plainName "com/example/graftwork/graftwork/simulate/Summary" = true := by first | (simp [plainName, overriddenIn]; done) | decide +kernel
theorem pd__V : parseMethodDescriptor "()V" = some ⟨[], none⟩ := by decide +kernel
def QrmSI (Z : State) (a0 : Addr) (d1 : UInt64) (p2 : Int32) (p3 : Int32) (d4 : UInt64) (d5 : UInt64) (p6 : Int32) (d7 : UInt64) (d8 : UInt64) (h0 : Heap) (n0 : Nat) (v : Option Value) (h : Heap) (L : List Loc) : Prop := v = none ∧ Fr n0 L ∧ Keep h0 h [a0] ∧ Fld Z h a0 "com/example/graftwork/graftwork/simulate/Summary" "arrivals" "I" (.int p2) ∧ Fld Z h a0 "com/example/graftwork/graftwork/simulate/Summary" "accepted" "I" (.int p3)
set_option maxRecDepth 65536 in
set_option maxHeartbeats 40000000 in
theorem rmSI (l : Launch) (Z : State) (av0 : Array Value) (hw : ∀ d ∈ tables_1, d.before av0 Z = true) (ws : List Jvm.Cond) (a0 : Addr) (d1 : UInt64) (p2 : Int32) (p3 : Int32) (d4 : UInt64) (d5 : UInt64) (p6 : Int32) (d7 : UInt64) (d8 : UInt64) (h0 : Heap) (n0 : Nat) (Z0 : n0 ≤ h0.size) (hE : Exa Z h0 a0 "com/example/graftwork/graftwork/simulate/Summary") (hge : n0 ≤ a0) (hF_until : Fld Z h0 a0 "com/example/graftwork/graftwork/simulate/Summary" "until" "D" (.double (0 : UInt64))) (hF_arrivals : Fld Z h0 a0 "com/example/graftwork/graftwork/simulate/Summary" "arrivals" "I" (.int (0 : Int32))) (hF_accepted : Fld Z h0 a0 "com/example/graftwork/graftwork/simulate/Summary" "accepted" "I" (.int (0 : Int32))) (hF_revenue : Fld Z h0 a0 "com/example/graftwork/graftwork/simulate/Summary" "revenue" "D" (.double (0 : UInt64))) (hF_cost : Fld Z h0 a0 "com/example/graftwork/graftwork/simulate/Summary" "cost" "D" (.double (0 : UInt64))) (hF_inService : Fld Z h0 a0 "com/example/graftwork/graftwork/simulate/Summary" "inService" "I" (.int (0 : Int32))) (hF_residualCpu : Fld Z h0 a0 "com/example/graftwork/graftwork/simulate/Summary" "residualCpu" "D" (.double (0 : UInt64))) (hF_residualBandwidth : Fld Z h0 a0 "com/example/graftwork/graftwork/simulate/Summary" "residualBandwidth" "D" (.double (0 : UInt64))) :
    own_Met l mN6 prog_53_method_1_code 14 none ws ({ frames := 2, cells := 0, slots := 0, locals := 24 } : Room) #[(.ref a0), (.double d1), (.int p2), (.int p3), (.double d4), (.double d5), (.int p6), (.double d7), (.double d8)] Z h0 (QrmSI Z a0 d1 p2 p3 d4 d5 p6 d7 d8 h0 n0) := by
  refine MetFree.of_bodySF (plainFor_of_name pn_Summary) hisR ?_
  intro p e s m args below meth c s₁ Bd hml0 hP hK
  obtain ⟨rfl, hZ, hh⟩ := hP
  have hml : c.maxLocals = 14 := hml0
  obtain ⟨hx, hby, hown, hnm, X0, e0⟩ := own_start Bd hml0 hh
  have N0 := Fr.nil n0
  have pre0 : ∀ tz, oS p e below s₁ (mkF m 0 #[rv a0, .val (.double d1), .second, iv p2, iv p3, .val (.double d4), .second, .val (.double d5), .second, iv p6, .val (.double d7), .second, .val (.double d8), .second] []) tz → Steps p.tables e below (s₁.setTop (entryFrame m #[(.ref a0), (.double d1), (.int p2), (.int p3), (.double d4), (.double d5), (.int p6), (.double d7), (.double d8)] 14)) tz := fun tz kz => castTop (by first | (simp [entryFrame, mkF, argsToLocals, Value.category]; done) | rfl) kz
  obtain ⟨_, T1, Lc1, X1, hQ1, st1⟩ := own_special (W := 0) (y := mN5) X0 hx hZ rfl hown (hw _ (own_w 10 rfl)) (hw _ (own_w 11 rfl)) (hw _ (own_w 14 rfl)) (hw _ (own_w 13 rfl)) (by decide) (rmRec l Z av0 hw [] a0 h0 n0 Z0 ) (by decide) (by decide) (g := (mkF m 1 #[rv a0, .val (.double d1), .second, iv p2, iv p3, .val (.double d4), .second, .val (.double d5), .second, iv p6, .val (.double d7), .second, .val (.double d8), .second] [(.ref a0)])) rfl (by rw [hml]; rfl) (a := a0) (argsL := []) (rest := []) (lenOf pd__V rfl) rfl (hb hby d2_1) rfl e0 (by decide : 0 + 0 ≤ _) (by decide : 0 + 0 ≤ _)
  obtain ⟨rfl, N1q, hh1⟩ := hQ1
  have N1 := Fr.app N0 N1q
  have e1 : T1.heap = h0 := hh1
  obtain ⟨T2, h2, X2, e2, W2, st2⟩ := putF X1 hx hZ hown (host := "") (Or.inl (hw _ (own_w 18 rfl))) Via.refl e1 hF_until hE (Or.inr ⟨(hw _ (own_w 19 rfl)), rfl, hnm⟩) (hw _ (own_w 5 rfl)) (ty := .double) (by decide) rfl rfl (g := (mkF m 6 #[rv a0, .val (.double d1), .second, iv p2, iv p3, .val (.double d4), .second, .val (.double d5), .second, iv p6, .val (.double d7), .second, .val (.double d8), .second] [(.double d1), (.ref a0)])) rfl rfl (hb hby d2_6)
  have N2 := Fr.snoc X2 N1 hge
  have Z2 : n0 ≤ h2.size := Nat.le_trans Z0 (Nat.le_of_eq W2.size.symm)
  have K2 : Keep h0 h2 [a0] := (Keep.refl h0 [a0]).wr W2 (Or.inl (List.mem_of_getElem? (i := 0) rfl))
  have Fw2 := hF_until.same W2
  have f3 := (hF_arrivals.other W2 (Or.inr (slot_ne (Or.inr (hw _ (own_w 21 rfl))) (Or.inr (hw _ (own_w 19 rfl))) (by decide) (t := .int) (t' := .double) (by decide) (by decide))))
  have f4 := (hE.wr W2)
  obtain ⟨T5, h5, X5, e5, W5, st5⟩ := putF X2 hx hZ hown (host := "") (Or.inl (hw _ (own_w 20 rfl))) Via.refl e2 f3 f4 (Or.inr ⟨(hw _ (own_w 21 rfl)), rfl, hnm⟩) (hw _ (own_w 5 rfl)) (ty := .int) (by decide) rfl rfl (g := (mkF m 11 #[rv a0, .val (.double d1), .second, iv p2, iv p3, .val (.double d4), .second, .val (.double d5), .second, iv p6, .val (.double d7), .second, .val (.double d8), .second] [(.int p2), (.ref a0)])) rfl rfl (hb hby d2_11)
  have N5 := Fr.snoc X5 N2 hge
  have Z5 : n0 ≤ h5.size := Nat.le_trans Z2 (Nat.le_of_eq W5.size.symm)
  have K5 : Keep h0 h5 [a0] := K2.wr W5 (Or.inl (List.mem_of_getElem? (i := 0) rfl))
  have Fw5 := f3.same W5
  have f6 := ((hF_accepted.other W2 (Or.inr (slot_ne (Or.inr (hw _ (own_w 23 rfl))) (Or.inr (hw _ (own_w 19 rfl))) (by decide) (t := .int) (t' := .double) (by decide) (by decide)))).other W5 (Or.inr (slot_ne (Or.inr (hw _ (own_w 23 rfl))) (Or.inr (hw _ (own_w 21 rfl))) (by decide) (t := .int) (t' := .int) (by decide) (by decide))))
  have f7 := (f4.wr W5)
  obtain ⟨T8, h8, X8, e8, W8, st8⟩ := putF X5 hx hZ hown (host := "") (Or.inl (hw _ (own_w 22 rfl))) Via.refl e5 f6 f7 (Or.inr ⟨(hw _ (own_w 23 rfl)), rfl, hnm⟩) (hw _ (own_w 5 rfl)) (ty := .int) (by decide) rfl rfl (g := (mkF m 17 #[rv a0, .val (.double d1), .second, iv p2, iv p3, .val (.double d4), .second, .val (.double d5), .second, iv p6, .val (.double d7), .second, .val (.double d8), .second] [(.int p3), (.ref a0)])) rfl rfl (hb hby d2_17)
  have N8 := Fr.snoc X8 N5 hge
  have Z8 : n0 ≤ h8.size := Nat.le_trans Z5 (Nat.le_of_eq W8.size.symm)
  have K8 : Keep h0 h8 [a0] := K5.wr W8 (Or.inl (List.mem_of_getElem? (i := 0) rfl))
  have Fw8 := f6.same W8
  have f9 := (((hF_revenue.other W2 (Or.inr (slot_ne (Or.inr (hw _ (own_w 25 rfl))) (Or.inr (hw _ (own_w 19 rfl))) (by decide) (t := .double) (t' := .double) (by decide) (by decide)))).other W5 (Or.inr (slot_ne (Or.inr (hw _ (own_w 25 rfl))) (Or.inr (hw _ (own_w 21 rfl))) (by decide) (t := .double) (t' := .int) (by decide) (by decide)))).other W8 (Or.inr (slot_ne (Or.inr (hw _ (own_w 25 rfl))) (Or.inr (hw _ (own_w 23 rfl))) (by decide) (t := .double) (t' := .int) (by decide) (by decide))))
  have f10 := (f7.wr W8)
  obtain ⟨T11, h11, X11, e11, W11, st11⟩ := putF X8 hx hZ hown (host := "") (Or.inl (hw _ (own_w 24 rfl))) Via.refl e8 f9 f10 (Or.inr ⟨(hw _ (own_w 25 rfl)), rfl, hnm⟩) (hw _ (own_w 5 rfl)) (ty := .double) (by decide) rfl rfl (g := (mkF m 23 #[rv a0, .val (.double d1), .second, iv p2, iv p3, .val (.double d4), .second, .val (.double d5), .second, iv p6, .val (.double d7), .second, .val (.double d8), .second] [(.double d4), (.ref a0)])) rfl rfl (hb hby d2_23)
  have N11 := Fr.snoc X11 N8 hge
  have Z11 : n0 ≤ h11.size := Nat.le_trans Z8 (Nat.le_of_eq W11.size.symm)
  have K11 : Keep h0 h11 [a0] := K8.wr W11 (Or.inl (List.mem_of_getElem? (i := 0) rfl))
  have Fw11 := f9.same W11
  have f12 := ((((hF_cost.other W2 (Or.inr (slot_ne (Or.inr (hw _ (own_w 27 rfl))) (Or.inr (hw _ (own_w 19 rfl))) (by decide) (t := .double) (t' := .double) (by decide) (by decide)))).other W5 (Or.inr (slot_ne (Or.inr (hw _ (own_w 27 rfl))) (Or.inr (hw _ (own_w 21 rfl))) (by decide) (t := .double) (t' := .int) (by decide) (by decide)))).other W8 (Or.inr (slot_ne (Or.inr (hw _ (own_w 27 rfl))) (Or.inr (hw _ (own_w 23 rfl))) (by decide) (t := .double) (t' := .int) (by decide) (by decide)))).other W11 (Or.inr (slot_ne (Or.inr (hw _ (own_w 27 rfl))) (Or.inr (hw _ (own_w 25 rfl))) (by decide) (t := .double) (t' := .double) (by decide) (by decide))))
  have f13 := (f10.wr W11)
  obtain ⟨T14, h14, X14, e14, W14, st14⟩ := putF X11 hx hZ hown (host := "") (Or.inl (hw _ (own_w 26 rfl))) Via.refl e11 f12 f13 (Or.inr ⟨(hw _ (own_w 27 rfl)), rfl, hnm⟩) (hw _ (own_w 5 rfl)) (ty := .double) (by decide) rfl rfl (g := (mkF m 29 #[rv a0, .val (.double d1), .second, iv p2, iv p3, .val (.double d4), .second, .val (.double d5), .second, iv p6, .val (.double d7), .second, .val (.double d8), .second] [(.double d5), (.ref a0)])) rfl rfl (hb hby d2_29)
  have N14 := Fr.snoc X14 N11 hge
  have Z14 : n0 ≤ h14.size := Nat.le_trans Z11 (Nat.le_of_eq W14.size.symm)
  have K14 : Keep h0 h14 [a0] := K11.wr W14 (Or.inl (List.mem_of_getElem? (i := 0) rfl))
  have Fw14 := f12.same W14
  have f15 := (((((hF_inService.other W2 (Or.inr (slot_ne (Or.inr (hw _ (own_w 29 rfl))) (Or.inr (hw _ (own_w 19 rfl))) (by decide) (t := .int) (t' := .double) (by decide) (by decide)))).other W5 (Or.inr (slot_ne (Or.inr (hw _ (own_w 29 rfl))) (Or.inr (hw _ (own_w 21 rfl))) (by decide) (t := .int) (t' := .int) (by decide) (by decide)))).other W8 (Or.inr (slot_ne (Or.inr (hw _ (own_w 29 rfl))) (Or.inr (hw _ (own_w 23 rfl))) (by decide) (t := .int) (t' := .int) (by decide) (by decide)))).other W11 (Or.inr (slot_ne (Or.inr (hw _ (own_w 29 rfl))) (Or.inr (hw _ (own_w 25 rfl))) (by decide) (t := .int) (t' := .double) (by decide) (by decide)))).other W14 (Or.inr (slot_ne (Or.inr (hw _ (own_w 29 rfl))) (Or.inr (hw _ (own_w 27 rfl))) (by decide) (t := .int) (t' := .double) (by decide) (by decide))))
  have f16 := (f13.wr W14)
  obtain ⟨T17, h17, X17, e17, W17, st17⟩ := putF X14 hx hZ hown (host := "") (Or.inl (hw _ (own_w 28 rfl))) Via.refl e14 f15 f16 (Or.inr ⟨(hw _ (own_w 29 rfl)), rfl, hnm⟩) (hw _ (own_w 5 rfl)) (ty := .int) (by decide) rfl rfl (g := (mkF m 35 #[rv a0, .val (.double d1), .second, iv p2, iv p3, .val (.double d4), .second, .val (.double d5), .second, iv p6, .val (.double d7), .second, .val (.double d8), .second] [(.int p6), (.ref a0)])) rfl rfl (hb hby d2_35)
  have N17 := Fr.snoc X17 N14 hge
  have Z17 : n0 ≤ h17.size := Nat.le_trans Z14 (Nat.le_of_eq W17.size.symm)
  have K17 : Keep h0 h17 [a0] := K14.wr W17 (Or.inl (List.mem_of_getElem? (i := 0) rfl))
  have Fw17 := f15.same W17
  have f18 := ((((((hF_residualCpu.other W2 (Or.inr (slot_ne (Or.inr (hw _ (own_w 31 rfl))) (Or.inr (hw _ (own_w 19 rfl))) (by decide) (t := .double) (t' := .double) (by decide) (by decide)))).other W5 (Or.inr (slot_ne (Or.inr (hw _ (own_w 31 rfl))) (Or.inr (hw _ (own_w 21 rfl))) (by decide) (t := .double) (t' := .int) (by decide) (by decide)))).other W8 (Or.inr (slot_ne (Or.inr (hw _ (own_w 31 rfl))) (Or.inr (hw _ (own_w 23 rfl))) (by decide) (t := .double) (t' := .int) (by decide) (by decide)))).other W11 (Or.inr (slot_ne (Or.inr (hw _ (own_w 31 rfl))) (Or.inr (hw _ (own_w 25 rfl))) (by decide) (t := .double) (t' := .double) (by decide) (by decide)))).other W14 (Or.inr (slot_ne (Or.inr (hw _ (own_w 31 rfl))) (Or.inr (hw _ (own_w 27 rfl))) (by decide) (t := .double) (t' := .double) (by decide) (by decide)))).other W17 (Or.inr (slot_ne (Or.inr (hw _ (own_w 31 rfl))) (Or.inr (hw _ (own_w 29 rfl))) (by decide) (t := .double) (t' := .int) (by decide) (by decide))))
  have f19 := (f16.wr W17)
  obtain ⟨T20, h20, X20, e20, W20, st20⟩ := putF X17 hx hZ hown (host := "") (Or.inl (hw _ (own_w 30 rfl))) Via.refl e17 f18 f19 (Or.inr ⟨(hw _ (own_w 31 rfl)), rfl, hnm⟩) (hw _ (own_w 5 rfl)) (ty := .double) (by decide) rfl rfl (g := (mkF m 41 #[rv a0, .val (.double d1), .second, iv p2, iv p3, .val (.double d4), .second, .val (.double d5), .second, iv p6, .val (.double d7), .second, .val (.double d8), .second] [(.double d7), (.ref a0)])) rfl rfl (hb hby d2_41)
  have N20 := Fr.snoc X20 N17 hge
  have Z20 : n0 ≤ h20.size := Nat.le_trans Z17 (Nat.le_of_eq W20.size.symm)
  have K20 : Keep h0 h20 [a0] := K17.wr W20 (Or.inl (List.mem_of_getElem? (i := 0) rfl))
  have Fw20 := f18.same W20
  have f21 := (((((((hF_residualBandwidth.other W2 (Or.inr (slot_ne (Or.inr (hw _ (own_w 33 rfl))) (Or.inr (hw _ (own_w 19 rfl))) (by decide) (t := .double) (t' := .double) (by decide) (by decide)))).other W5 (Or.inr (slot_ne (Or.inr (hw _ (own_w 33 rfl))) (Or.inr (hw _ (own_w 21 rfl))) (by decide) (t := .double) (t' := .int) (by decide) (by decide)))).other W8 (Or.inr (slot_ne (Or.inr (hw _ (own_w 33 rfl))) (Or.inr (hw _ (own_w 23 rfl))) (by decide) (t := .double) (t' := .int) (by decide) (by decide)))).other W11 (Or.inr (slot_ne (Or.inr (hw _ (own_w 33 rfl))) (Or.inr (hw _ (own_w 25 rfl))) (by decide) (t := .double) (t' := .double) (by decide) (by decide)))).other W14 (Or.inr (slot_ne (Or.inr (hw _ (own_w 33 rfl))) (Or.inr (hw _ (own_w 27 rfl))) (by decide) (t := .double) (t' := .double) (by decide) (by decide)))).other W17 (Or.inr (slot_ne (Or.inr (hw _ (own_w 33 rfl))) (Or.inr (hw _ (own_w 29 rfl))) (by decide) (t := .double) (t' := .int) (by decide) (by decide)))).other W20 (Or.inr (slot_ne (Or.inr (hw _ (own_w 33 rfl))) (Or.inr (hw _ (own_w 31 rfl))) (by decide) (t := .double) (t' := .double) (by decide) (by decide))))
  have f22 := (f19.wr W20)
  obtain ⟨T23, h23, X23, e23, W23, st23⟩ := putF X20 hx hZ hown (host := "") (Or.inl (hw _ (own_w 32 rfl))) Via.refl e20 f21 f22 (Or.inr ⟨(hw _ (own_w 33 rfl)), rfl, hnm⟩) (hw _ (own_w 5 rfl)) (ty := .double) (by decide) rfl rfl (g := (mkF m 47 #[rv a0, .val (.double d1), .second, iv p2, iv p3, .val (.double d4), .second, .val (.double d5), .second, iv p6, .val (.double d7), .second, .val (.double d8), .second] [(.double d8), (.ref a0)])) rfl rfl (hb hby d2_47)
  have N23 := Fr.snoc X23 N20 hge
  have Z23 : n0 ≤ h23.size := Nat.le_trans Z20 (Nat.le_of_eq W23.size.symm)
  have K23 : Keep h0 h23 [a0] := K20.wr W23 (Or.inl (List.mem_of_getElem? (i := 0) rfl))
  have Fw23 := f21.same W23
  have S24 : ∀ tz, oS p e below T23 (mkF m 50 #[rv a0, .val (.double d1), .second, iv p2, iv p3, .val (.double d4), .second, .val (.double d5), .second, iv p6, .val (.double d7), .second, .val (.double d8), .second] []) tz → oS p e below s₁ (mkF m 0 #[rv a0, .val (.double d1), .second, iv p2, iv p3, .val (.double d4), .second, .val (.double d5), .second, iv p6, .val (.double d7), .second, .val (.double d8), .second] []) tz := fun tz kz => id (by
    show oS p e below s₁ (mkF m 0 #[rv a0, .val (.double d1), .second, iv p2, iv p3, .val (.double d4), .second, .val (.double d5), .second, iv p6, .val (.double d7), .second, .val (.double d8), .second] []) _
    refine XS.aloadN X0.here hx rfl (hb hby d2_0) rfl rfl ?_
    refine st1 _ ?_
    refine XS.aloadN X1.here hx rfl (hb hby d2_4) rfl rfl ?_
    refine XS.dloadN X1.here hx rfl (hb hby d2_5) rfl ?_
    refine st2 _ ?_
    refine XS.aloadN X2.here hx rfl (hb hby d2_9) rfl rfl ?_
    refine XS.iloadN X2.here hx rfl (hb hby d2_10) rfl ?_
    refine st5 _ ?_
    refine XS.aloadN X5.here hx rfl (hb hby d2_14) rfl rfl ?_
    refine XS.iload X5.here hx rfl (hb hby d2_15) rfl ?_
    show oS p e below T5 (mkF m 17 #[rv a0, .val (.double d1), .second, iv p2, iv p3, .val (.double d4), .second, .val (.double d5), .second, iv p6, .val (.double d7), .second, .val (.double d8), .second] [(.int p3), (.ref a0)]) _
    refine st8 _ ?_
    refine XS.aloadN X8.here hx rfl (hb hby d2_20) rfl rfl ?_
    refine XS.dload X8.here hx rfl (hb hby d2_21) rfl ?_
    refine st11 _ ?_
    refine XS.aloadN X11.here hx rfl (hb hby d2_26) rfl rfl ?_
    refine XS.dload X11.here hx rfl (hb hby d2_27) rfl ?_
    refine st14 _ ?_
    refine XS.aloadN X14.here hx rfl (hb hby d2_32) rfl rfl ?_
    refine XS.iload X14.here hx rfl (hb hby d2_33) rfl ?_
    refine st17 _ ?_
    show oS p e below T17 (mkF m 38 #[rv a0, .val (.double d1), .second, iv p2, iv p3, .val (.double d4), .second, .val (.double d5), .second, iv p6, .val (.double d7), .second, .val (.double d8), .second] []) _
    refine XS.aloadN X17.here hx rfl (hb hby d2_38) rfl rfl ?_
    refine XS.dload X17.here hx rfl (hb hby d2_39) rfl ?_
    refine st20 _ ?_
    refine XS.aloadN X20.here hx rfl (hb hby d2_44) rfl rfl ?_
    refine XS.dload X20.here hx rfl (hb hby d2_45) rfl ?_
    refine st23 _ ?_
    exact kz)
  obtain ⟨fs, hr, hrun, hended, hW, hsame⟩ := X23.leave (v := none) (fun _ => rfl)
  refine ⟨_, _, pre0 _ (S24 _ ?_), hrun, hended, _, _, rfl, ?_, ⟨_, rfl⟩, hW, hsame.mono (by decide) (by decide)⟩
  · exact X23.returnOut hx Bd.returns (hb hby d2_50) hr
  have f25 := ((((((Fw5.other W8 (Or.inr (slot_ne (Or.inr (hw _ (own_w 21 rfl))) (Or.inr (hw _ (own_w 23 rfl))) (by decide) (t := .int) (t' := .int) (by decide) (by decide)))).other W11 (Or.inr (slot_ne (Or.inr (hw _ (own_w 21 rfl))) (Or.inr (hw _ (own_w 25 rfl))) (by decide) (t := .int) (t' := .double) (by decide) (by decide)))).other W14 (Or.inr (slot_ne (Or.inr (hw _ (own_w 21 rfl))) (Or.inr (hw _ (own_w 27 rfl))) (by decide) (t := .int) (t' := .double) (by decide) (by decide)))).other W17 (Or.inr (slot_ne (Or.inr (hw _ (own_w 21 rfl))) (Or.inr (hw _ (own_w 29 rfl))) (by decide) (t := .int) (t' := .int) (by decide) (by decide)))).other W20 (Or.inr (slot_ne (Or.inr (hw _ (own_w 21 rfl))) (Or.inr (hw _ (own_w 31 rfl))) (by decide) (t := .int) (t' := .double) (by decide) (by decide)))).other W23 (Or.inr (slot_ne (Or.inr (hw _ (own_w 21 rfl))) (Or.inr (hw _ (own_w 33 rfl))) (by decide) (t := .int) (t' := .double) (by decide) (by decide))))
  have f26 := (((((Fw8.other W11 (Or.inr (slot_ne (Or.inr (hw _ (own_w 23 rfl))) (Or.inr (hw _ (own_w 25 rfl))) (by decide) (t := .int) (t' := .double) (by decide) (by decide)))).other W14 (Or.inr (slot_ne (Or.inr (hw _ (own_w 23 rfl))) (Or.inr (hw _ (own_w 27 rfl))) (by decide) (t := .int) (t' := .double) (by decide) (by decide)))).other W17 (Or.inr (slot_ne (Or.inr (hw _ (own_w 23 rfl))) (Or.inr (hw _ (own_w 29 rfl))) (by decide) (t := .int) (t' := .int) (by decide) (by decide)))).other W20 (Or.inr (slot_ne (Or.inr (hw _ (own_w 23 rfl))) (Or.inr (hw _ (own_w 31 rfl))) (by decide) (t := .int) (t' := .double) (by decide) (by decide)))).other W23 (Or.inr (slot_ne (Or.inr (hw _ (own_w 23 rfl))) (Or.inr (hw _ (own_w 33 rfl))) (by decide) (t := .int) (t' := .double) (by decide) (by decide))))
  · show QrmSI Z a0 d1 p2 p3 d4 d5 p6 d7 d8 h0 n0 _ T23.heap _
    rw [e23]
    exact ⟨rfl, N23, K23, f25, f26⟩
theorem d1_0 : decode method_2_code 0 = .ok (.new 7, 3) := by decide +kernel
theorem d1_3 : decode method_2_code 3 = .ok (.dup, 1) := by decide +kernel
theorem d1_4 : decode method_2_code 4 = .ok (.dconst 1, 1) := by decide +kernel
theorem d1_5 : decode method_2_code 5 = .ok (.iload_n 0, 1) := by decide +kernel
theorem d1_6 : decode method_2_code 6 = .ok (.iload_n 1, 1) := by decide +kernel
theorem d1_7 : decode method_2_code 7 = .ok (.dconst 0, 1) := by decide +kernel
theorem d1_8 : decode method_2_code 8 = .ok (.dconst 0, 1) := by decide +kernel
theorem d1_9 : decode method_2_code 9 = .ok (.iconst 0, 1) := by decide +kernel
theorem d1_10 : decode method_2_code 10 = .ok (.dconst 0, 1) := by decide +kernel
theorem d1_11 : decode method_2_code 11 = .ok (.dconst 0, 1) := by decide +kernel
theorem d1_12 : decode method_2_code 12 = .ok (.invokespecial 9, 3) := by decide +kernel
theorem d1_15 : decode method_2_code 15 = .ok (.areturn, 1) := by decide +kernel
theorem pn_SummaryAcceptanceRatioPinLaw : plainName "com/example/graftwork/graftwork/simulate/SummaryAcceptanceRatioPinLaw" = true := by first | (simp [plainName, overriddenIn]; done) | decide +kernel
theorem pd__DIIDDIDD_V : parseMethodDescriptor "(DIIDDIDD)V" = some ⟨[.double, .int, .int, .double, .double, .int, .double, .double], none⟩ := by decide +kernel
def QrmMk (Z : State) (p0 : Int32) (p1 : Int32) (h0 : Heap) (n0 : Nat) (v : Option Value) (h : Heap) (L : List Loc) : Prop := ∃ b : Addr, v = some (.ref b) ∧ Fr n0 L ∧ h0.size ≤ b ∧ Keep h0 h [] ∧ Exa Z h b "com/example/graftwork/graftwork/simulate/Summary" ∧ Fld Z h b "com/example/graftwork/graftwork/simulate/Summary" "arrivals" "I" (.int p0) ∧ Fld Z h b "com/example/graftwork/graftwork/simulate/Summary" "accepted" "I" (.int p1)
set_option maxRecDepth 65536 in
set_option maxHeartbeats 40000000 in
theorem rmMk (l : Launch) (Z : State) (av0 : Array Value) (hw : ∀ d ∈ tables_1, d.before av0 Z = true) (ws : List Jvm.Cond) (p0 : Int32) (p1 : Int32) (h0 : Heap) (n0 : Nat) (Z0 : n0 ≤ h0.size)  :
    own_Met l mN7 method_2_code 2 (some (.object "com/example/graftwork/graftwork/simulate/Summary")) ws ({ frames := 3, cells := 1, slots := 8, locals := 50 } : Room) #[(.int p0), (.int p1)] Z h0 (QrmMk Z p0 p1 h0 n0) := by
  refine MetFree.of_bodySF (plainFor_of_name pn_SummaryAcceptanceRatioPinLaw) hisR ?_
  intro p e s m args below meth c s₁ Bd hml0 hP hK
  obtain ⟨rfl, hZ, hh⟩ := hP
  have hml : c.maxLocals = 2 := hml0
  obtain ⟨hx, hby, hown, hnm, X0, e0⟩ := own_start Bd hml0 hh
  have N0 := Fr.nil n0
  have pre0 : ∀ tz, oS p e below s₁ (mkF m 0 #[iv p0, iv p1] []) tz → Steps p.tables e below (s₁.setTop (entryFrame m #[(.int p0), (.int p1)] 2)) tz := fun tz kz => castTop (by first | (simp [entryFrame, mkF, argsToLocals, Value.category]; done) | rfl) kz
  obtain ⟨T1, h1, X1, e1, E1, A1, D1, -, st1⟩ := newO X0 hx hZ hown (hw _ (own_w 4 rfl)) (hw _ (own_w 5 rfl)) (hw _ (own_w 6 rfl)) e0 (g := (mkF m 0 #[iv p0, iv p1] [])) rfl (hb hby d1_0) (by decide) (by decide)
  obtain ⟨b1, g1⟩ : ∃ z, z = h0.size := ⟨_, rfl⟩
  rw [← g1] at A1 D1 st1
  have ge_b1 : n0 ≤ b1 := Nat.le_trans Z0 (Nat.le_of_eq g1.symm)
  have sz_b1 : h0.size ≤ b1 := Nat.le_of_eq g1.symm
  have Z1 : n0 ≤ h1.size := Nat.le_trans Z0 E1.1
  have K1 : Keep h0 h1 [] := (Keep.refl h0 []).ext E1
  have F1_until : Fld Z h1 b1 "com/example/graftwork/graftwork/simulate/Summary" "until" "D" (defaultValue .double) := D1 (Or.inr (hw _ (own_w 19 rfl))) (ty := .double) (by decide)
  have F1_arrivals : Fld Z h1 b1 "com/example/graftwork/graftwork/simulate/Summary" "arrivals" "I" (.int 0) := D1 (Or.inr (hw _ (own_w 21 rfl))) (ty := .int) (by decide)
  have F1_accepted : Fld Z h1 b1 "com/example/graftwork/graftwork/simulate/Summary" "accepted" "I" (.int 0) := D1 (Or.inr (hw _ (own_w 23 rfl))) (ty := .int) (by decide)
  have F1_revenue : Fld Z h1 b1 "com/example/graftwork/graftwork/simulate/Summary" "revenue" "D" (defaultValue .double) := D1 (Or.inr (hw _ (own_w 25 rfl))) (ty := .double) (by decide)
  have F1_cost : Fld Z h1 b1 "com/example/graftwork/graftwork/simulate/Summary" "cost" "D" (defaultValue .double) := D1 (Or.inr (hw _ (own_w 27 rfl))) (ty := .double) (by decide)
  have F1_inService : Fld Z h1 b1 "com/example/graftwork/graftwork/simulate/Summary" "inService" "I" (.int 0) := D1 (Or.inr (hw _ (own_w 29 rfl))) (ty := .int) (by decide)
  have F1_residualCpu : Fld Z h1 b1 "com/example/graftwork/graftwork/simulate/Summary" "residualCpu" "D" (defaultValue .double) := D1 (Or.inr (hw _ (own_w 31 rfl))) (ty := .double) (by decide)
  have F1_residualBandwidth : Fld Z h1 b1 "com/example/graftwork/graftwork/simulate/Summary" "residualBandwidth" "D" (defaultValue .double) := D1 (Or.inr (hw _ (own_w 33 rfl))) (ty := .double) (by decide)
  obtain ⟨_, T2, Lc2, X2, hQ2, st2⟩ := own_special (W := 1) (y := mN6) X1 hx hZ rfl hown (hw _ (own_w 7 rfl)) (hw _ (own_w 8 rfl)) (hw _ (own_w 9 rfl)) (hw _ (own_w 6 rfl)) (by decide) (rmSI l Z av0 hw [] b1 FP.dconst1 p0 p1 FP.dconst0 FP.dconst0 (0 : Int32) FP.dconst0 FP.dconst0 h1 n0 Z1 A1 ge_b1 F1_until F1_arrivals F1_accepted F1_revenue F1_cost F1_inService F1_residualCpu F1_residualBandwidth) (by decide) (by decide) (g := (mkF m 12 #[iv p0, iv p1] [(.double FP.dconst0), (.double FP.dconst0), (.int 0), (.double FP.dconst0), (.double FP.dconst0), (.int p1), (.int p0), (.double FP.dconst1), (.ref b1), (.ref b1)])) rfl (by rw [hml]; rfl) (a := b1) (argsL := [(.double FP.dconst1), (.int p0), (.int p1), (.double FP.dconst0), (.double FP.dconst0), (.int 0), (.double FP.dconst0), (.double FP.dconst0)]) (rest := [(.ref b1)]) (lenOf pd__DIIDDIDD_V rfl) rfl (hb hby d1_12) rfl e1 (by decide : 1 + 0 ≤ _) (by decide : 8 + 0 ≤ _)
  obtain ⟨rfl, N2q, K2, Farrivals2, Faccepted2⟩ := hQ2
  have N2 := Fr.app N0 N2q
  have e2 : T2.heap = T2.heap := rfl
  have Zk2 : n0 ≤ T2.heap.size := Nat.le_trans Z1 K2.1
  have Kk2 : Keep h0 T2.heap [] := K1.trans K2 (allS (Or.inr sz_b1) all0)
  have S3 : ∀ tz, oS p e below T2 (mkF m 15 #[iv p0, iv p1] [(.ref b1)]) tz → oS p e below s₁ (mkF m 0 #[iv p0, iv p1] []) tz := fun tz kz => id (by
    show oS p e below s₁ (mkF m 0 #[iv p0, iv p1] []) _
    refine st1 _ ?_
    refine XS.dup X1.here hx rfl (hb hby d1_3) rfl rfl ?_
    refine XS.dconst1 X1.here hx rfl (hb hby d1_4) rfl ?_
    refine XS.iloadN X1.here hx rfl (hb hby d1_5) rfl ?_
    refine XS.iloadN X1.here hx rfl (hb hby d1_6) rfl ?_
    refine XS.dconst0 X1.here hx rfl (hb hby d1_7) rfl ?_
    refine XS.dconst0 X1.here hx rfl (hb hby d1_8) rfl ?_
    refine XT.iconstV X1.here hx rfl (0 : Int32) (hb hby d1_9) (by decide) ?_
    refine XS.dconst0 X1.here hx rfl (hb hby d1_10) rfl ?_
    refine XS.dconst0 X1.here hx rfl (hb hby d1_11) rfl ?_
    show oS p e below T1 (mkF m 12 #[iv p0, iv p1] [(.double FP.dconst0), (.double FP.dconst0), (.int 0), (.double FP.dconst0), (.double FP.dconst0), (.int p1), (.int p0), (.double FP.dconst1), (.ref b1), (.ref b1)]) _
    refine st2 _ ?_
    exact kz)
  obtain ⟨fs, hr, hrun, hended, hW, hsame⟩ := X2.leave (v := some (.ref b1)) (fun h => by rw [Bd.returns] at h; cases h)
  refine ⟨_, _, pre0 _ (S3 _ ?_), hrun, hended, _, _, rfl, ?_, ⟨_, rfl⟩, hW, hsame.mono (by decide) (by decide)⟩
  · jvm_step X2.here [X2.here.top, hx, (hb hby d1_15), X2.method', Bd.returns, Value.isRef, FieldType.isReference]
    first | (intro acts; rw [hr _ acts rfl rfl rfl]) | rw [hr _ _ rfl rfl rfl]
    exact Steps.refl _
  have f4 := (A1.keep K2)
  · show QrmMk Z p0 p1 h0 n0 _ T2.heap _
    rw [e2]
    exact ⟨_, rfl, N2, sz_b1, Kk2, f4, Farrivals2, Faccepted2⟩
theorem d5_0 : decode prog_53_method_3_code 0 = .ok (.aload_n 0, 1) := by decide +kernel
theorem d5_1 : decode prog_53_method_3_code 1 = .ok (.getfield 13, 3) := by decide +kernel
theorem d5_4 : decode prog_53_method_3_code 4 = .ok (.ifCond .ne 9, 3) := by decide +kernel
theorem d5_7 : decode prog_53_method_3_code 7 = .ok (.invokestatic 35, 3) := by decide +kernel
theorem d5_10 : decode prog_53_method_3_code 10 = .ok (.goto 17, 3) := by decide +kernel
theorem d5_27 : decode prog_53_method_3_code 27 = .ok (.areturn, 1) := by decide +kernel
theorem pd__Ljava_util_OptionalDouble_ : parseMethodDescriptor "()Ljava/util/OptionalDouble;" = some ⟨[], some (.object "java/util/OptionalDouble")⟩ := by decide +kernel
def QrmRatE (Z : State) (a0 : Addr) (ya : Int32) (yc : Int32) (aE : Addr) (h0 : Heap) (n0 : Nat) (v : Option Value) (h : Heap) (L : List Loc) : Prop := v = some (.ref aE) ∧ Fr n0 L ∧ h = h0
set_option maxRecDepth 65536 in
set_option maxHeartbeats 40000000 in
theorem rmRatE (l : Launch) (Z : State) (av0 : Array Value) (hw : ∀ d ∈ tables_1, d.before av0 Z = true) (ws : List Jvm.Cond) (a0 : Addr) (ya : Int32) (yc : Int32) (aE : Addr) (h0 : Heap) (n0 : Nat) (Z0 : n0 ≤ h0.size) (hA : Fld Z h0 a0 "com/example/graftwork/graftwork/simulate/Summary" "arrivals" "I" (.int ya)) (hC : Fld Z h0 a0 "com/example/graftwork/graftwork/simulate/Summary" "accepted" "I" (.int yc)) (hz : ya = 0) (hS : Sta Z h0 "java/util/OptionalDouble" "EMPTY" "Ljava/util/OptionalDouble;" (.ref aE)) :
    own_Met l mN8 prog_53_method_3_code 1 (some (.object "java/util/OptionalDouble")) ws ({ frames := 1, cells := 0, slots := 0, locals := 11 } : Room) #[(.ref a0)] Z h0 (QrmRatE Z a0 ya yc aE h0 n0) := by
  refine MetFree.of_bodySF (plainFor_of_name pn_Summary) hisR ?_
  intro p e s m args below meth c s₁ Bd hml0 hP hK
  obtain ⟨rfl, hZ, hh⟩ := hP
  have hml : c.maxLocals = 1 := hml0
  obtain ⟨hx, hby, hown, hnm, X0, e0⟩ := own_start Bd hml0 hh
  have N0 := Fr.nil n0
  have pre0 : ∀ tz, oS p e below s₁ (mkF m 0 #[rv a0] []) tz → Steps p.tables e below (s₁.setTop (entryFrame m #[(.ref a0)] 1)) tz := fun tz kz => castTop (by first | (simp [entryFrame, mkF, argsToLocals, Value.category]; done) | rfl) kz
  obtain ⟨T1, X1, e1, st1⟩ := getF X0 hx hZ hown (host := "") (Or.inl (hw _ (own_w 20 rfl))) Via.refl e0 hA (g := (mkF m 1 #[rv a0] [(.ref a0)])) rfl rfl (hb hby d5_1)
  obtain ⟨_, T2, Lc2, X2, hQ2, st2⟩ := own_callS (W := 0) (y := mN2) X1 hx hZ hown (hw _ (own_w 39 rfl)) (hw _ (own_w 40 rfl)) (hw _ (own_w 41 rfl)) (hw _ (own_w 42 rfl)) (by decide) (rmEm l Z av0 hw [] aE h0 n0 Z0 hS) (by decide) (by decide) (g := (mkF m 7 #[rv a0] [])) rfl (by rw [hml]; rfl) (argsL := []) (rest := []) (lenOf pd__Ljava_util_OptionalDouble_ rfl) rfl (hb hby d5_7) rfl e1 (by decide : 0 + 0 ≤ _) (by decide : 0 + 0 ≤ _)
  obtain ⟨rfl, N2q, hh2⟩ := hQ2
  have N2 := Fr.app N0 N2q
  have e2 : T2.heap = h0 := hh2
  have S3 : ∀ tz, oS p e below T2 (mkF m 27 #[rv a0] [(.ref aE)]) tz → oS p e below s₁ (mkF m 0 #[rv a0] []) tz := fun tz kz => id (by
    show oS p e below s₁ (mkF m 0 #[rv a0] []) _
    refine XS.aloadN X0.here hx rfl (hb hby d5_0) rfl rfl ?_
    refine st1 _ ?_
    refine XS.ifNo X1.here hx rfl (hb hby d5_4) rfl (XT.i0_ne_f hz) ?_
    refine st2 _ ?_
    refine XS.goto X2.here hx rfl (pc0 := 10) (pc' := 27) rfl (hb hby d5_10) (by decide) (by decide) ?_
    exact kz)
  obtain ⟨fs, hr, hrun, hended, hW, hsame⟩ := X2.leave (v := some (.ref aE)) (fun h => by rw [Bd.returns] at h; cases h)
  refine ⟨_, _, pre0 _ (S3 _ ?_), hrun, hended, _, _, rfl, ?_, ⟨_, rfl⟩, hW, hsame.mono (by decide) (by decide)⟩
  · jvm_step X2.here [X2.here.top, hx, (hb hby d5_27), X2.method', Bd.returns, Value.isRef, FieldType.isReference]
    first | (intro acts; rw [hr _ acts rfl rfl rfl]) | rw [hr _ _ rfl rfl rfl]
    exact Steps.refl _
  · show QrmRatE Z a0 ya yc aE h0 n0 _ T2.heap _
    rw [e2]
    exact ⟨rfl, N2, rfl⟩
theorem d5_13 : decode prog_53_method_3_code 13 = .ok (.aload_n 0, 1) := by decide +kernel
theorem d5_14 : decode prog_53_method_3_code 14 = .ok (.getfield 17, 3) := by decide +kernel
theorem d5_17 : decode prog_53_method_3_code 17 = .ok (.i2d, 1) := by decide +kernel
theorem d5_18 : decode prog_53_method_3_code 18 = .ok (.aload_n 0, 1) := by decide +kernel
theorem d5_19 : decode prog_53_method_3_code 19 = .ok (.getfield 13, 3) := by decide +kernel
theorem d5_22 : decode prog_53_method_3_code 22 = .ok (.i2d, 1) := by decide +kernel
theorem d5_23 : decode prog_53_method_3_code 23 = .ok (.ddiv, 1) := by decide +kernel
theorem d5_24 : decode prog_53_method_3_code 24 = .ok (.invokestatic 41, 3) := by decide +kernel
theorem pd__D_Ljava_util_OptionalDouble_ : parseMethodDescriptor "(D)Ljava/util/OptionalDouble;" = some ⟨[.double], some (.object "java/util/OptionalDouble")⟩ := by decide +kernel
def QrmRatP (Z : State) (a0 : Addr) (ya : Int32) (yc : Int32) (h0 : Heap) (n0 : Nat) (v : Option Value) (h : Heap) (L : List Loc) : Prop := ∃ b : Addr, v = some (.ref b) ∧ Fr n0 L ∧ h0.size ≤ b ∧ Keep h0 h [] ∧ Exa Z h b "java/util/OptionalDouble" ∧ Fld Z h b "java/util/OptionalDouble" "isPresent" "Z" (.int (1 : Int32)) ∧ Fld Z h b "java/util/OptionalDouble" "value" "D" (.double (FP.ddiv (FP.i2d yc) (FP.i2d ya)))
set_option maxRecDepth 65536 in
set_option maxHeartbeats 40000000 in
theorem rmRatP (l : Launch) (Z : State) (av0 : Array Value) (hw : ∀ d ∈ tables_1, d.before av0 Z = true) (ws : List Jvm.Cond) (a0 : Addr) (ya : Int32) (yc : Int32) (h0 : Heap) (n0 : Nat) (Z0 : n0 ≤ h0.size) (hA : Fld Z h0 a0 "com/example/graftwork/graftwork/simulate/Summary" "arrivals" "I" (.int ya)) (hC : Fld Z h0 a0 "com/example/graftwork/graftwork/simulate/Summary" "accepted" "I" (.int yc)) (hz : ¬ ya = 0) :
    own_Met l mN8 prog_53_method_3_code 1 (some (.object "java/util/OptionalDouble")) ws ({ frames := 3, cells := 1, slots := 2, locals := 40 } : Room) #[(.ref a0)] Z h0 (QrmRatP Z a0 ya yc h0 n0) := by
  refine MetFree.of_bodySF (plainFor_of_name pn_Summary) hisR ?_
  intro p e s m args below meth c s₁ Bd hml0 hP hK
  obtain ⟨rfl, hZ, hh⟩ := hP
  have hml : c.maxLocals = 1 := hml0
  obtain ⟨hx, hby, hown, hnm, X0, e0⟩ := own_start Bd hml0 hh
  have N0 := Fr.nil n0
  have pre0 : ∀ tz, oS p e below s₁ (mkF m 0 #[rv a0] []) tz → Steps p.tables e below (s₁.setTop (entryFrame m #[(.ref a0)] 1)) tz := fun tz kz => castTop (by first | (simp [entryFrame, mkF, argsToLocals, Value.category]; done) | rfl) kz
  obtain ⟨T1, X1, e1, st1⟩ := getF X0 hx hZ hown (host := "") (Or.inl (hw _ (own_w 20 rfl))) Via.refl e0 hA (g := (mkF m 1 #[rv a0] [(.ref a0)])) rfl rfl (hb hby d5_1)
  obtain ⟨T2, X2, e2, st2⟩ := getF X1 hx hZ hown (host := "") (Or.inl (hw _ (own_w 22 rfl))) Via.refl e1 hC (g := (mkF m 14 #[rv a0] [(.ref a0)])) rfl rfl (hb hby d5_14)
  obtain ⟨T3, X3, e3, st3⟩ := getF X2 hx hZ hown (host := "") (Or.inl (hw _ (own_w 20 rfl))) Via.refl e2 hA (g := (mkF m 19 #[rv a0] [(.ref a0), (.double (FP.i2d yc))])) rfl rfl (hb hby d5_19)
  obtain ⟨_, T4, Lc4, X4, hQ4, st4⟩ := own_callS (W := 0) (y := mN1) X3 hx hZ hown (hw _ (own_w 52 rfl)) (hw _ (own_w 53 rfl)) (hw _ (own_w 41 rfl)) (hw _ (own_w 54 rfl)) (by decide) (rmOf l Z av0 hw [] (FP.ddiv (FP.i2d yc) (FP.i2d ya)) h0 n0 Z0 ) (by decide) (by decide) (g := (mkF m 24 #[rv a0] [(.double (FP.ddiv (FP.i2d yc) (FP.i2d ya)))])) rfl (by rw [hml]; rfl) (argsL := [(.double (FP.ddiv (FP.i2d yc) (FP.i2d ya)))]) (rest := []) (lenOf pd__D_Ljava_util_OptionalDouble_ rfl) rfl (hb hby d5_24) rfl e3 (by decide : 0 + 1 ≤ _) (by decide : 0 + 2 ≤ _)
  obtain ⟨b4, rfl, N4q, gb4, K4, E4, I4, V4⟩ := hQ4
  have N4 := Fr.app N0 N4q
  have e4 : T4.heap = T4.heap := rfl
  have ge_b4 : n0 ≤ b4 := Nat.le_trans Z0 gb4
  have sz_b4 : h0.size ≤ b4 := gb4
  have Zk4 : n0 ≤ T4.heap.size := Nat.le_trans Z0 K4.1
  have Kk4 : Keep h0 T4.heap [] := (Keep.refl h0 []).trans K4 all0
  have S5 : ∀ tz, oS p e below T4 (mkF m 27 #[rv a0] [(.ref b4)]) tz → oS p e below s₁ (mkF m 0 #[rv a0] []) tz := fun tz kz => id (by
    show oS p e below s₁ (mkF m 0 #[rv a0] []) _
    refine XS.aloadN X0.here hx rfl (hb hby d5_0) rfl rfl ?_
    refine st1 _ ?_
    refine XS.ifYes X1.here hx rfl (pc0 := 4) (pc' := 13) rfl (hb hby d5_4) rfl (XT.i0_ne_t hz) (by decide) (by decide) ?_
    refine XS.aloadN X1.here hx rfl (hb hby d5_13) rfl rfl ?_
    refine st2 _ ?_
    refine XS.i2dS X2.here hx rfl (hb hby d5_17) rfl rfl ?_
    refine XS.aloadN X2.here hx rfl (hb hby d5_18) rfl rfl ?_
    refine st3 _ ?_
    refine XS.i2dS X3.here hx rfl (hb hby d5_22) rfl rfl ?_
    refine XS.ddivS X3.here hx rfl (hb hby d5_23) rfl (own_nnd yc hz) rfl ?_
    show oS p e below T3 (mkF m 24 #[rv a0] [(.double (FP.ddiv (FP.i2d yc) (FP.i2d ya)))]) _
    refine st4 _ ?_
    exact kz)
  obtain ⟨fs, hr, hrun, hended, hW, hsame⟩ := X4.leave (v := some (.ref b4)) (fun h => by rw [Bd.returns] at h; cases h)
  refine ⟨_, _, pre0 _ (S5 _ ?_), hrun, hended, _, _, rfl, ?_, ⟨_, rfl⟩, hW, hsame.mono (by decide) (by decide)⟩
  · jvm_step X4.here [X4.here.top, hx, (hb hby d5_27), X4.method', Bd.returns, Value.isRef, FieldType.isReference]
    first | (intro acts; rw [hr _ acts rfl rfl rfl]) | rw [hr _ _ rfl rfl rfl]
    exact Steps.refl _
  · show QrmRatP Z a0 ya yc h0 n0 _ T4.heap _
    rw [e4]
    exact ⟨_, rfl, N4, sz_b4, Kk4, E4, I4, V4⟩
theorem pd__II_Lcom_example_graftwork_graftwork_simulate_Summary_ : parseMethodDescriptor "(II)Lcom/example/graftwork/graftwork/simulate/Summary;" = some ⟨[.int, .int], some (.object "com/example/graftwork/graftwork/simulate/Summary")⟩ := by decide +kernel
theorem pd__Z : parseMethodDescriptor "()Z" = some ⟨[], some .boolean⟩ := by decide +kernel
theorem pd__D : parseMethodDescriptor "()D" = some ⟨[], some .double⟩ := by decide +kernel
def Qrm0 (Z : State) (p0 : Int32) (p1 : Int32) (p2 : Int32) (p3 : Int32) (aE : Addr) (h0 : Heap) (n0 : Nat) (v : Option Value) (h : Heap) (L : List Loc) : Prop := v = some (.int (1 : Int32)) ∧ Fr n0 L
set_option maxRecDepth 65536 in
set_option maxHeartbeats 40000000 in
theorem rm0 (l : Launch) (Z : State) (av0 : Array Value) (hw : ∀ d ∈ tables_1, d.before av0 Z = true) (ws : List Jvm.Cond) (p0 : Int32) (p1 : Int32) (p2 : Int32) (p3 : Int32) (aE : Addr) (h0 : Heap) (n0 : Nat) (Z0 : n0 ≤ h0.size) (hSE : Sta Z h0 "java/util/OptionalDouble" "EMPTY" "Ljava/util/OptionalDouble;" (.ref aE)) (hEE : Exa Z h0 aE "java/util/OptionalDouble") (hFE : Fld Z h0 aE "java/util/OptionalDouble" "isPresent" "Z" (.int (0 : Int32))) :
    MetFree l x (head1 (Jvm.Cond.code x code maxLocals ret :: ws) room_1) (fun aU U => aU = #[(.int p0), (.int p1), (.int p2), (.int p3)] ∧ Z.Warmed39 U.vm ∧ U.heap = h0) (fun _ _ _ _ _ => True) (fun _ U oU U' => ∃ vU LU, oU = .returned vU ∧ Qrm0 Z p0 p1 p2 p3 aE h0 n0 vU U'.heap LU ∧ FrameEnd U oU U' LU room_1.cells room_1.slots) := by
  refine MetFree.of_bodySF (plainFor_of_name pn_SummaryAcceptanceRatioPinLaw) hisR ?_
  intro p e s m args below meth c s₁ Bd hml0 hP hK
  obtain ⟨rfl, hZ, hh⟩ := hP
  have hml : c.maxLocals = 19 := hml0
  obtain ⟨hx, hby, hown, hnm, X0, e0⟩ := own_start Bd hml0 hh
  have N0 := Fr.nil n0
  have pre0 : ∀ tz, oS p e below s₁ (mkF m 0 #[iv p0, iv p1, iv p2, iv p3, .unset, .unset, .unset, .unset, .unset, .unset, .unset, .unset, .unset, .unset, .unset, .unset, .unset, .unset, .unset] []) tz → Steps p.tables e below (s₁.setTop (entryFrame m #[(.int p0), (.int p1), (.int p2), (.int p3)] maxLocals)) tz := fun tz kz => castTop (by first | (simp [entryFrame, mkF, argsToLocals, Value.category, maxLocals]; done) | rfl) kz
  have S1 : ∀ tz, oS p e below s₁ (mkF m 3 #[iv p0, iv p1, iv p2, iv p3, .unset, .unset, .unset, .unset, .unset, .unset, .unset, .unset, .unset, .unset, .unset, .unset, .unset, .unset, .unset] [(.int (p3 &&& (1 : Int32)))]) tz → oS p e below s₁ (mkF m 0 #[iv p0, iv p1, iv p2, iv p3, .unset, .unset, .unset, .unset, .unset, .unset, .unset, .unset, .unset, .unset, .unset, .unset, .unset, .unset, .unset] []) tz := fun tz kz => id (by
    show oS p e below s₁ (mkF m 0 #[iv p0, iv p1, iv p2, iv p3, .unset, .unset, .unset, .unset, .unset, .unset, .unset, .unset, .unset, .unset, .unset, .unset, .unset, .unset, .unset] []) _
    refine XS.iloadN X0.here hx rfl (hb hby at_0) rfl ?_
    refine XT.iconstV X0.here hx rfl (1 : Int32) (hb hby at_1) (by decide) ?_
    refine XS.iand X0.here hx rfl (hb hby at_2) rfl ?_
    exact kz)
  by_cases hc3_2 : (p3 &&& (1 : Int32)) = (0 : Int32)
  · obtain ⟨_, T3, Lc3, X3, hQ3, st3⟩ := own_callS (W := 0) (y := mN7) X0 hx hZ hown (hw _ (own_w 0 rfl)) (hw _ (own_w 1 rfl)) (hw _ (own_w 2 rfl)) (hw _ (own_w 3 rfl)) (by decide) (rmMk l Z av0 hw [] (0 : Int32) p1 h0 n0 Z0 ) (by decide) (by decide) (g := (mkF m 16 #[iv p0, iv p1, iv p2, iv p3, iv 0, .unset, .unset, .unset, .unset, .unset, .unset, .unset, .unset, .unset, .unset, .unset, .unset, .unset, .unset] [(.int p1), (.int 0)])) rfl (by rw [hml]; rfl) (argsL := [(.int 0), (.int p1)]) (rest := []) (lenOf pd__II_Lcom_example_graftwork_graftwork_simulate_Summary_ rfl) rfl (hb hby at_16) rfl e0 (by decide : 0 + 1 ≤ _) (by decide : 0 + 8 ≤ _)
    obtain ⟨b3, rfl, N3q, gb3, K3, E3, Fa3, Fc3⟩ := hQ3
    have N3 := Fr.app N0 N3q
    have e3 : T3.heap = T3.heap := rfl
    have ne_aE_b3 : aE ≠ b3 := Nat.ne_of_lt (Nat.lt_of_lt_of_le hEE.lt gb3)
    have ge_b3 : n0 ≤ b3 := Nat.le_trans Z0 gb3
    have sz_b3 : h0.size ≤ b3 := gb3
    have Zk3 : n0 ≤ T3.heap.size := Nat.le_trans Z0 K3.1
    have Kk3 : Keep h0 T3.heap [] := (Keep.refl h0 []).trans K3 all0
    have f4 := (own_stak hSE K3 all0)
    obtain ⟨_, T5, Lc5, X5, hQ5, st5⟩ := own_virtual (W := 0) (y := mN8) (z := mN8) X3 hx hZ hown (hw _ (own_w 34 rfl)) (hw _ (own_w 35 rfl)) (notFace_of_selects (args := #[]) (mvT hZ (hw _ (own_w 37 rfl)))) (hw _ (own_w 37 rfl)) (hw _ (own_w 36 rfl)) (hw _ (own_w 38 rfl)) (hw _ (own_w 6 rfl)) (by decide) (rmRatE l Z av0 hw [] b3 (0 : Int32) p1 aE T3.heap n0 Zk3 Fa3 Fc3 (by decide) f4) (by decide) (by decide) E3 (g := (mkF m 19 #[iv p0, iv p1, iv p2, iv p3, iv 0, .unset, .unset, .unset, .unset, .unset, .unset, .unset, .unset, .unset, .unset, .unset, .unset, .unset, .unset] [(.ref b3)])) rfl (by rw [hml]; rfl) (argsL := []) (rest := []) (lenOf pd__Ljava_util_OptionalDouble_ rfl) rfl (hb hby at_19) rfl e3 (by decide : 1 + 0 ≤ _) (by decide : 8 + 0 ≤ _)
    obtain ⟨rfl, N5q, hh5⟩ := hQ5
    have N5 := Fr.app N3 N5q
    have e5 : T5.heap = T3.heap := hh5
    have f6 := (hFE.keep K3 nin0)
    have f8 := (hEE.keep K3)
    obtain ⟨_, T7, Lc7, X7, hQ7, st7⟩ := own_virtual (W := 0) (y := mN3) (z := mN3) X5 hx hZ hown (hw _ (own_w 44 rfl)) (hw _ (own_w 45 rfl)) (notFace_of_selects (args := #[]) (mvT hZ (hw _ (own_w 47 rfl)))) (hw _ (own_w 47 rfl)) (hw _ (own_w 46 rfl)) (hw _ (own_w 48 rfl)) (hw _ (own_w 41 rfl)) (by decide) (rmIs0 l Z av0 hw [] aE T3.heap n0 Zk3 f6) (by decide) (by decide) f8 (g := (mkF m 26 #[iv p0, iv p1, iv p2, iv p3, iv 0, rv aE, .unset, .unset, .unset, .unset, .unset, .unset, .unset, .unset, .unset, .unset, .unset, .unset, .unset] [(.ref aE)])) rfl (by rw [hml]; rfl) (argsL := []) (rest := []) (lenOf pd__Z rfl) rfl (hb hby at_26) rfl e5 (by decide : 1 + 0 ≤ _) (by decide : 8 + 0 ≤ _)
    obtain ⟨rfl, N7q, hh7⟩ := hQ7
    have N7 := Fr.app N5 N7q
    have e7 : T7.heap = T3.heap := hh7
    have S9 : ∀ tz, oS p e below T7 (mkF m 52 #[iv p0, iv p1, iv p2, iv p3, iv 0, rv aE, iv (own_m p0), .unset, .unset, .unset, .unset, .unset, .unset, .unset, .unset, .unset, .unset, .unset, .unset] [(.int (own_m p0))]) tz → oS p e below s₁ (mkF m 0 #[iv p0, iv p1, iv p2, iv p3, .unset, .unset, .unset, .unset, .unset, .unset, .unset, .unset, .unset, .unset, .unset, .unset, .unset, .unset, .unset] []) tz := fun tz kz => S1 tz (by
      show oS p e below s₁ (mkF m 3 #[iv p0, iv p1, iv p2, iv p3, .unset, .unset, .unset, .unset, .unset, .unset, .unset, .unset, .unset, .unset, .unset, .unset, .unset, .unset, .unset] [(.int (p3 &&& (1 : Int32)))]) _
      refine XS.ifNo X0.here hx rfl (hb hby at_3) rfl (XT.i0_ne_f hc3_2) ?_
      refine XT.iconstV X0.here hx rfl (0 : Int32) (hb hby at_6) (by decide) ?_
      refine XS.goto X0.here hx rfl (pc0 := 7) (pc' := 11) rfl (hb hby at_7) (by decide) (by decide) ?_
      refine XS.istore X0.here hx rfl (hb hby at_11) rfl (l' := #[iv p0, iv p1, iv p2, iv p3, iv 0, .unset, .unset, .unset, .unset, .unset, .unset, .unset, .unset, .unset, .unset, .unset, .unset, .unset, .unset]) rfl ?_
      refine XS.iload X0.here hx rfl (hb hby at_13) rfl ?_
      refine XS.iloadN X0.here hx rfl (hb hby at_15) rfl ?_
      refine st3 _ ?_
      show oS p e below T3 (mkF m 19 #[iv p0, iv p1, iv p2, iv p3, iv 0, .unset, .unset, .unset, .unset, .unset, .unset, .unset, .unset, .unset, .unset, .unset, .unset, .unset, .unset] [(.ref b3)]) _
      refine st5 _ ?_
      refine XS.astore X5.here hx rfl (hb hby at_22) rfl rfl (l' := #[iv p0, iv p1, iv p2, iv p3, iv 0, rv aE, .unset, .unset, .unset, .unset, .unset, .unset, .unset, .unset, .unset, .unset, .unset, .unset, .unset]) rfl ?_
      refine XS.aload X5.here hx rfl (hb hby at_24) rfl rfl ?_
      refine st7 _ ?_
      refine XS.iload X7.here hx rfl (hb hby at_29) rfl ?_
      refine XS.ifYes X7.here hx rfl (pc0 := 31) (pc' := 38) rfl (hb hby at_31) rfl (XT.i0_eq_t (by decide)) (by decide) (by decide) ?_
      refine XT.iconstV X7.here hx rfl (0 : Int32) (hb hby at_38) (by decide) ?_
      refine XS.icmpYes X7.here hx rfl (pc0 := 39) (pc' := 44) rfl (hb hby at_39) rfl (XT.ii_eq_t (by decide)) (by decide) (by decide) ?_
      refine XS.iloadN X7.here hx rfl (hb hby at_44) rfl ?_
      refine X7.ldcI hx hown (mvT hZ (hw _ (own_w 51 rfl))) rfl (hb hby at_45) ?_
      show oS p e below T7 (mkF m 47 #[iv p0, iv p1, iv p2, iv p3, iv 0, rv aE, .unset, .unset, .unset, .unset, .unset, .unset, .unset, .unset, .unset, .unset, .unset, .unset, .unset] [(.int 2147483647), (.int p0)]) _
      refine XS.iand X7.here hx rfl (hb hby at_47) rfl ?_
      show oS p e below T7 (mkF m 48 #[iv p0, iv p1, iv p2, iv p3, iv 0, rv aE, .unset, .unset, .unset, .unset, .unset, .unset, .unset, .unset, .unset, .unset, .unset, .unset, .unset] [(.int (p0 &&& (2147483647 : Int32)))]) _
      skip
      show oS p e below T7 (mkF m 48 #[iv p0, iv p1, iv p2, iv p3, iv 0, rv aE, .unset, .unset, .unset, .unset, .unset, .unset, .unset, .unset, .unset, .unset, .unset, .unset, .unset] [(.int (own_m p0))]) _
      refine XS.istore X7.here hx rfl (hb hby at_48) rfl (l' := #[iv p0, iv p1, iv p2, iv p3, iv 0, rv aE, iv (own_m p0), .unset, .unset, .unset, .unset, .unset, .unset, .unset, .unset, .unset, .unset, .unset, .unset]) rfl ?_
      refine XS.iload X7.here hx rfl (hb hby at_50) rfl ?_
      exact kz)
    by_cases hc52_10 : (own_m p0) = (0 : Int32)
    · obtain ⟨_, T11, Lc11, X11, hQ11, st11⟩ := own_callS (W := 0) (y := mN7) X7 hx hZ hown (hw _ (own_w 0 rfl)) (hw _ (own_w 1 rfl)) (hw _ (own_w 2 rfl)) (hw _ (own_w 3 rfl)) (by decide) (rmMk l Z av0 hw [] own_o (own_r p1 own_o) T3.heap n0 Zk3 ) (by decide) (by decide) (g := (mkF m 90 #[iv p0, iv p1, iv p2, iv p3, iv 0, rv aE, iv own_o, iv (own_r p1 own_o), iv (own_r p2 own_o), .unset, .unset, .unset, .unset, .unset, .unset, .unset, .unset, .unset, .unset] [(.int (own_r p1 own_o)), (.int own_o)])) rfl (by rw [hml]; rfl) (argsL := [(.int own_o), (.int (own_r p1 own_o))]) (rest := []) (lenOf pd__II_Lcom_example_graftwork_graftwork_simulate_Summary_ rfl) rfl (hb hby at_90) rfl e7 (by decide : 1 + 1 ≤ _) (by decide : 8 + 8 ≤ _)
      obtain ⟨b11, rfl, N11q, gb11, K11, E11, Fa11, Fc11⟩ := hQ11
      have N11 := Fr.app N7 N11q
      have e11 : T11.heap = T11.heap := rfl
      have ne_aE_b11 : aE ≠ b11 := Nat.ne_of_lt (Nat.lt_of_lt_of_le f8.lt gb11)
      have ne_b3_b11 : b3 ≠ b11 := Nat.ne_of_lt (Nat.lt_of_lt_of_le E3.lt gb11)
      have ge_b11 : n0 ≤ b11 := Nat.le_trans Zk3 gb11
      have sz_b11 : h0.size ≤ b11 := Nat.le_trans Kk3.1 gb11
      have Zk11 : n0 ≤ T11.heap.size := Nat.le_trans Zk3 K11.1
      have Kk11 : Keep h0 T11.heap [] := Kk3.trans K11 all0
      obtain ⟨_, T12, Lc12, X12, hQ12, st12⟩ := own_virtual (W := 0) (y := mN8) (z := mN8) X11 hx hZ hown (hw _ (own_w 34 rfl)) (hw _ (own_w 35 rfl)) (notFace_of_selects (args := #[]) (mvT hZ (hw _ (own_w 37 rfl)))) (hw _ (own_w 37 rfl)) (hw _ (own_w 36 rfl)) (hw _ (own_w 38 rfl)) (hw _ (own_w 6 rfl)) (by decide) (rmRatP l Z av0 hw [] b11 own_o (own_r p1 own_o) T11.heap n0 Zk11 Fa11 Fc11 (own_pnz own_opos)) (by decide) (by decide) E11 (g := (mkF m 93 #[iv p0, iv p1, iv p2, iv p3, iv 0, rv aE, iv own_o, iv (own_r p1 own_o), iv (own_r p2 own_o), .unset, .unset, .unset, .unset, .unset, .unset, .unset, .unset, .unset, .unset] [(.ref b11)])) rfl (by rw [hml]; rfl) (argsL := []) (rest := []) (lenOf pd__Ljava_util_OptionalDouble_ rfl) rfl (hb hby at_93) rfl e11 (by decide : 2 + 1 ≤ _) (by decide : 16 + 2 ≤ _)
      obtain ⟨b12, rfl, N12q, gb12, K12, E12, I12, V12⟩ := hQ12
      have N12 := Fr.app N11 N12q
      have e12 : T12.heap = T12.heap := rfl
      have f13 := (f8.keep K11)
      have ne_aE_b12 : aE ≠ b12 := Nat.ne_of_lt (Nat.lt_of_lt_of_le f13.lt gb12)
      have ne_b11_b12 : b11 ≠ b12 := Nat.ne_of_lt (Nat.lt_of_lt_of_le E11.lt gb12)
      have f14 := (E3.keep K11)
      have ne_b3_b12 : b3 ≠ b12 := Nat.ne_of_lt (Nat.lt_of_lt_of_le f14.lt gb12)
      have ge_b12 : n0 ≤ b12 := Nat.le_trans Zk11 gb12
      have sz_b12 : h0.size ≤ b12 := Nat.le_trans Kk11.1 gb12
      have Zk12 : n0 ≤ T12.heap.size := Nat.le_trans Zk11 K12.1
      have Kk12 : Keep h0 T12.heap [] := Kk11.trans K12 all0
      obtain ⟨_, T15, Lc15, X15, hQ15, st15⟩ := own_callS (W := 0) (y := mN7) X12 hx hZ hown (hw _ (own_w 0 rfl)) (hw _ (own_w 1 rfl)) (hw _ (own_w 2 rfl)) (hw _ (own_w 3 rfl)) (by decide) (rmMk l Z av0 hw [] own_o (own_r p2 own_o) T12.heap n0 Zk12 ) (by decide) (by decide) (g := (mkF m 102 #[iv p0, iv p1, iv p2, iv p3, iv 0, rv aE, iv own_o, iv (own_r p1 own_o), iv (own_r p2 own_o), rv b12, .unset, .unset, .unset, .unset, .unset, .unset, .unset, .unset, .unset] [(.int (own_r p2 own_o)), (.int own_o)])) rfl (by rw [hml]; rfl) (argsL := [(.int own_o), (.int (own_r p2 own_o))]) (rest := []) (lenOf pd__II_Lcom_example_graftwork_graftwork_simulate_Summary_ rfl) rfl (hb hby at_102) rfl e12 (by decide : 3 + 1 ≤ _) (by decide : 18 + 8 ≤ _)
      obtain ⟨b15, rfl, N15q, gb15, K15, E15, Fa15, Fc15⟩ := hQ15
      have N15 := Fr.app N12 N15q
      have e15 : T15.heap = T15.heap := rfl
      have f16 := (f13.keep K12)
      have ne_aE_b15 : aE ≠ b15 := Nat.ne_of_lt (Nat.lt_of_lt_of_le f16.lt gb15)
      have f17 := (E11.keep K12)
      have ne_b11_b15 : b11 ≠ b15 := Nat.ne_of_lt (Nat.lt_of_lt_of_le f17.lt gb15)
      have ne_b12_b15 : b12 ≠ b15 := Nat.ne_of_lt (Nat.lt_of_lt_of_le E12.lt gb15)
      have f18 := (f14.keep K12)
      have ne_b3_b15 : b3 ≠ b15 := Nat.ne_of_lt (Nat.lt_of_lt_of_le f18.lt gb15)
      have ge_b15 : n0 ≤ b15 := Nat.le_trans Zk12 gb15
      have sz_b15 : h0.size ≤ b15 := Nat.le_trans Kk12.1 gb15
      have Zk15 : n0 ≤ T15.heap.size := Nat.le_trans Zk12 K15.1
      have Kk15 : Keep h0 T15.heap [] := Kk12.trans K15 all0
      obtain ⟨_, T19, Lc19, X19, hQ19, st19⟩ := own_virtual (W := 0) (y := mN8) (z := mN8) X15 hx hZ hown (hw _ (own_w 34 rfl)) (hw _ (own_w 35 rfl)) (notFace_of_selects (args := #[]) (mvT hZ (hw _ (own_w 37 rfl)))) (hw _ (own_w 37 rfl)) (hw _ (own_w 36 rfl)) (hw _ (own_w 38 rfl)) (hw _ (own_w 6 rfl)) (by decide) (rmRatP l Z av0 hw [] b15 own_o (own_r p2 own_o) T15.heap n0 Zk15 Fa15 Fc15 (own_pnz own_opos)) (by decide) (by decide) E15 (g := (mkF m 105 #[iv p0, iv p1, iv p2, iv p3, iv 0, rv aE, iv own_o, iv (own_r p1 own_o), iv (own_r p2 own_o), rv b12, .unset, .unset, .unset, .unset, .unset, .unset, .unset, .unset, .unset] [(.ref b15)])) rfl (by rw [hml]; rfl) (argsL := []) (rest := []) (lenOf pd__Ljava_util_OptionalDouble_ rfl) rfl (hb hby at_105) rfl e15 (by decide : 4 + 1 ≤ _) (by decide : 26 + 2 ≤ _)
      obtain ⟨b19, rfl, N19q, gb19, K19, E19, I19, V19⟩ := hQ19
      have N19 := Fr.app N15 N19q
      have e19 : T19.heap = T19.heap := rfl
      have f20 := (f16.keep K15)
      have ne_aE_b19 : aE ≠ b19 := Nat.ne_of_lt (Nat.lt_of_lt_of_le f20.lt gb19)
      have f21 := (f17.keep K15)
      have ne_b11_b19 : b11 ≠ b19 := Nat.ne_of_lt (Nat.lt_of_lt_of_le f21.lt gb19)
      have f22 := (E12.keep K15)
      have ne_b12_b19 : b12 ≠ b19 := Nat.ne_of_lt (Nat.lt_of_lt_of_le f22.lt gb19)
      have ne_b15_b19 : b15 ≠ b19 := Nat.ne_of_lt (Nat.lt_of_lt_of_le E15.lt gb19)
      have f23 := (f18.keep K15)
      have ne_b3_b19 : b3 ≠ b19 := Nat.ne_of_lt (Nat.lt_of_lt_of_le f23.lt gb19)
      have ge_b19 : n0 ≤ b19 := Nat.le_trans Zk15 gb19
      have sz_b19 : h0.size ≤ b19 := Nat.le_trans Kk15.1 gb19
      have Zk19 : n0 ≤ T19.heap.size := Nat.le_trans Zk15 K19.1
      have Kk19 : Keep h0 T19.heap [] := Kk15.trans K19 all0
      have f24 := ((I12.keep K15 nin0).keep K19 nin0)
      have f26 := (f22.keep K19)
      obtain ⟨_, T25, Lc25, X25, hQ25, st25⟩ := own_virtual (W := 0) (y := mN3) (z := mN3) X19 hx hZ hown (hw _ (own_w 44 rfl)) (hw _ (own_w 45 rfl)) (notFace_of_selects (args := #[]) (mvT hZ (hw _ (own_w 47 rfl)))) (hw _ (own_w 47 rfl)) (hw _ (own_w 46 rfl)) (hw _ (own_w 48 rfl)) (hw _ (own_w 41 rfl)) (by decide) (rmIs1 l Z av0 hw [] b12 T19.heap n0 Zk19 f24) (by decide) (by decide) f26 (g := (mkF m 112 #[iv p0, iv p1, iv p2, iv p3, iv 0, rv aE, iv own_o, iv (own_r p1 own_o), iv (own_r p2 own_o), rv b12, rv b19, .unset, .unset, .unset, .unset, .unset, .unset, .unset, .unset] [(.ref b12)])) rfl (by rw [hml]; rfl) (argsL := []) (rest := []) (lenOf pd__Z rfl) rfl (hb hby at_112) rfl e19 (by decide : 5 + 0 ≤ _) (by decide : 28 + 0 ≤ _)
      obtain ⟨rfl, N25q, hh25⟩ := hQ25
      have N25 := Fr.app N19 N25q
      have e25 : T25.heap = T19.heap := hh25
      obtain ⟨_, T27, Lc27, X27, hQ27, st27⟩ := own_virtual (W := 0) (y := mN3) (z := mN3) X25 hx hZ hown (hw _ (own_w 44 rfl)) (hw _ (own_w 45 rfl)) (notFace_of_selects (args := #[]) (mvT hZ (hw _ (own_w 47 rfl)))) (hw _ (own_w 47 rfl)) (hw _ (own_w 46 rfl)) (hw _ (own_w 48 rfl)) (hw _ (own_w 41 rfl)) (by decide) (rmIs1 l Z av0 hw [] b19 T19.heap n0 Zk19 I19) (by decide) (by decide) E19 (g := (mkF m 120 #[iv p0, iv p1, iv p2, iv p3, iv 0, rv aE, iv own_o, iv (own_r p1 own_o), iv (own_r p2 own_o), rv b12, rv b19, .unset, .unset, .unset, .unset, .unset, .unset, .unset, .unset] [(.ref b19)])) rfl (by rw [hml]; rfl) (argsL := []) (rest := []) (lenOf pd__Z rfl) rfl (hb hby at_120) rfl e25 (by decide : 5 + 0 ≤ _) (by decide : 28 + 0 ≤ _)
      obtain ⟨rfl, N27q, hh27⟩ := hQ27
      have N27 := Fr.app N25 N27q
      have e27 : T27.heap = T19.heap := hh27
      have f28 := ((V12.keep K15 nin0).keep K19 nin0)
      obtain ⟨_, T29, Lc29, X29, hQ29, st29⟩ := own_virtual (W := 0) (y := mN4) (z := mN4) X27 hx hZ hown (hw _ (own_w 64 rfl)) (hw _ (own_w 65 rfl)) (notFace_of_selects (args := #[]) (mvT hZ (hw _ (own_w 67 rfl)))) (hw _ (own_w 67 rfl)) (hw _ (own_w 66 rfl)) (hw _ (own_w 68 rfl)) (hw _ (own_w 41 rfl)) (by decide) (rmGet l Z av0 hw [] b12 (FP.ddiv (FP.i2d (own_r p1 own_o)) (FP.i2d own_o)) T19.heap n0 Zk19 f24 f28) (by decide) (by decide) f26 (g := (mkF m 130 #[iv p0, iv p1, iv p2, iv p3, iv 0, rv aE, iv own_o, iv (own_r p1 own_o), iv (own_r p2 own_o), rv b12, rv b19, .unset, .unset, .unset, .unset, .unset, .unset, .unset, .unset] [(.ref b12)])) rfl (by rw [hml]; rfl) (argsL := []) (rest := []) (lenOf pd__D rfl) rfl (hb hby at_130) rfl e27 (by decide : 5 + 0 ≤ _) (by decide : 28 + 0 ≤ _)
      obtain ⟨rfl, N29q, hh29⟩ := hQ29
      have N29 := Fr.app N27 N29q
      have e29 : T29.heap = T19.heap := hh29
      obtain ⟨_, T30, Lc30, X30, hQ30, st30⟩ := own_virtual (W := 0) (y := mN4) (z := mN4) X29 hx hZ hown (hw _ (own_w 64 rfl)) (hw _ (own_w 65 rfl)) (notFace_of_selects (args := #[]) (mvT hZ (hw _ (own_w 67 rfl)))) (hw _ (own_w 67 rfl)) (hw _ (own_w 66 rfl)) (hw _ (own_w 68 rfl)) (hw _ (own_w 41 rfl)) (by decide) (rmGet l Z av0 hw [] b19 (FP.ddiv (FP.i2d (own_r p2 own_o)) (FP.i2d own_o)) T19.heap n0 Zk19 I19 V19) (by decide) (by decide) E19 (g := (mkF m 137 #[iv p0, iv p1, iv p2, iv p3, iv 0, rv aE, iv own_o, iv (own_r p1 own_o), iv (own_r p2 own_o), rv b12, rv b19, .val (.double (FP.ddiv (FP.i2d (own_r p1 own_o)) (FP.i2d own_o))), .second, .unset, .unset, .unset, .unset, .unset, .unset] [(.ref b19)])) rfl (by rw [hml]; rfl) (argsL := []) (rest := []) (lenOf pd__D rfl) rfl (hb hby at_137) rfl e29 (by decide : 5 + 0 ≤ _) (by decide : 28 + 0 ≤ _)
      obtain ⟨rfl, N30q, hh30⟩ := hQ30
      have N30 := Fr.app N29 N30q
      have e30 : T30.heap = T19.heap := hh30
      have S31 : ∀ tz, oS p e below T30 (mkF m 142 #[iv p0, iv p1, iv p2, iv p3, iv 0, rv aE, iv own_o, iv (own_r p1 own_o), iv (own_r p2 own_o), rv b12, rv b19, .val (.double (FP.ddiv (FP.i2d (own_r p1 own_o)) (FP.i2d own_o))), .second, .val (.double (FP.ddiv (FP.i2d (own_r p2 own_o)) (FP.i2d own_o))), .second, .unset, .unset, .unset, .unset] []) tz → oS p e below s₁ (mkF m 0 #[iv p0, iv p1, iv p2, iv p3, .unset, .unset, .unset, .unset, .unset, .unset, .unset, .unset, .unset, .unset, .unset, .unset, .unset, .unset, .unset] []) tz := fun tz kz => S9 tz (by
        show oS p e below T7 (mkF m 52 #[iv p0, iv p1, iv p2, iv p3, iv 0, rv aE, iv (own_m p0), .unset, .unset, .unset, .unset, .unset, .unset, .unset, .unset, .unset, .unset, .unset, .unset] [(.int (own_m p0))]) _
        refine XS.ifNo X7.here hx rfl (hb hby at_52) rfl (XT.i0_ne_f hc52_10) ?_
        refine XT.iconstV X7.here hx rfl (1 : Int32) (hb hby at_55) (by decide) ?_
        show oS p e below T7 (mkF m 56 #[iv p0, iv p1, iv p2, iv p3, iv 0, rv aE, iv (own_m p0), .unset, .unset, .unset, .unset, .unset, .unset, .unset, .unset, .unset, .unset, .unset, .unset] [(.int 1)]) _
        skip
        show oS p e below T7 (mkF m 56 #[iv p0, iv p1, iv p2, iv p3, iv 0, rv aE, iv (own_m p0), .unset, .unset, .unset, .unset, .unset, .unset, .unset, .unset, .unset, .unset, .unset, .unset] [(.int own_o)]) _
        refine XS.istore X7.here hx rfl (hb hby at_56) rfl (l' := #[iv p0, iv p1, iv p2, iv p3, iv 0, rv aE, iv own_o, .unset, .unset, .unset, .unset, .unset, .unset, .unset, .unset, .unset, .unset, .unset, .unset]) rfl ?_
        refine XS.iloadN X7.here hx rfl (hb hby at_58) rfl ?_
        refine X7.ldcI hx hown (mvT hZ (hw _ (own_w 51 rfl))) rfl (hb hby at_59) ?_
        show oS p e below T7 (mkF m 61 #[iv p0, iv p1, iv p2, iv p3, iv 0, rv aE, iv own_o, .unset, .unset, .unset, .unset, .unset, .unset, .unset, .unset, .unset, .unset, .unset, .unset] [(.int 2147483647), (.int p1)]) _
        refine XS.iand X7.here hx rfl (hb hby at_61) rfl ?_
        show oS p e below T7 (mkF m 62 #[iv p0, iv p1, iv p2, iv p3, iv 0, rv aE, iv own_o, .unset, .unset, .unset, .unset, .unset, .unset, .unset, .unset, .unset, .unset, .unset, .unset] [(.int (p1 &&& (2147483647 : Int32)))]) _
        skip
        show oS p e below T7 (mkF m 62 #[iv p0, iv p1, iv p2, iv p3, iv 0, rv aE, iv own_o, .unset, .unset, .unset, .unset, .unset, .unset, .unset, .unset, .unset, .unset, .unset, .unset] [(.int (own_m p1))]) _
        refine XT.i2l X7.here hx rfl (hb hby at_62) rfl ?_
        refine XS.iload X7.here hx rfl (hb hby at_63) rfl ?_
        refine XT.i2l X7.here hx rfl (hb hby at_65) rfl ?_
        refine XT.lconstV X7.here hx rfl (1 : Int64) (hb hby at_66) (by decide) ?_
        refine XT.ladd X7.here hx rfl (hb hby at_67) rfl ?_
        refine XT.lrem X7.here hx rfl (hb hby at_68) rfl (own_lnz own_opos) ?_
        refine XT.l2i X7.here hx rfl (hb hby at_69) rfl ?_
        show oS p e below T7 (mkF m 70 #[iv p0, iv p1, iv p2, iv p3, iv 0, rv aE, iv own_o, .unset, .unset, .unset, .unset, .unset, .unset, .unset, .unset, .unset, .unset, .unset, .unset] [(.int ((((own_m p1)).toInt64 - (((own_m p1)).toInt64 / ((own_o).toInt64 + (1 : Int64))) * ((own_o).toInt64 + (1 : Int64)))).toInt32)]) _
        skip
        show oS p e below T7 (mkF m 70 #[iv p0, iv p1, iv p2, iv p3, iv 0, rv aE, iv own_o, .unset, .unset, .unset, .unset, .unset, .unset, .unset, .unset, .unset, .unset, .unset, .unset] [(.int (own_r p1 own_o))]) _
        refine XS.istore X7.here hx rfl (hb hby at_70) rfl (l' := #[iv p0, iv p1, iv p2, iv p3, iv 0, rv aE, iv own_o, iv (own_r p1 own_o), .unset, .unset, .unset, .unset, .unset, .unset, .unset, .unset, .unset, .unset, .unset]) rfl ?_
        refine XS.iloadN X7.here hx rfl (hb hby at_72) rfl ?_
        refine X7.ldcI hx hown (mvT hZ (hw _ (own_w 51 rfl))) rfl (hb hby at_73) ?_
        refine XS.iand X7.here hx rfl (hb hby at_75) rfl ?_
        show oS p e below T7 (mkF m 76 #[iv p0, iv p1, iv p2, iv p3, iv 0, rv aE, iv own_o, iv (own_r p1 own_o), .unset, .unset, .unset, .unset, .unset, .unset, .unset, .unset, .unset, .unset, .unset] [(.int (p2 &&& (2147483647 : Int32)))]) _
        skip
        show oS p e below T7 (mkF m 76 #[iv p0, iv p1, iv p2, iv p3, iv 0, rv aE, iv own_o, iv (own_r p1 own_o), .unset, .unset, .unset, .unset, .unset, .unset, .unset, .unset, .unset, .unset, .unset] [(.int (own_m p2))]) _
        refine XT.i2l X7.here hx rfl (hb hby at_76) rfl ?_
        refine XS.iload X7.here hx rfl (hb hby at_77) rfl ?_
        refine XT.i2l X7.here hx rfl (hb hby at_79) rfl ?_
        refine XT.lconstV X7.here hx rfl (1 : Int64) (hb hby at_80) (by decide) ?_
        refine XT.ladd X7.here hx rfl (hb hby at_81) rfl ?_
        show oS p e below T7 (mkF m 82 #[iv p0, iv p1, iv p2, iv p3, iv 0, rv aE, iv own_o, iv (own_r p1 own_o), .unset, .unset, .unset, .unset, .unset, .unset, .unset, .unset, .unset, .unset, .unset] [(.long ((own_o).toInt64 + (1 : Int64))), (.long ((own_m p2)).toInt64)]) _
        refine XT.lrem X7.here hx rfl (hb hby at_82) rfl (own_lnz own_opos) ?_
        refine XT.l2i X7.here hx rfl (hb hby at_83) rfl ?_
        show oS p e below T7 (mkF m 84 #[iv p0, iv p1, iv p2, iv p3, iv 0, rv aE, iv own_o, iv (own_r p1 own_o), .unset, .unset, .unset, .unset, .unset, .unset, .unset, .unset, .unset, .unset, .unset] [(.int ((((own_m p2)).toInt64 - (((own_m p2)).toInt64 / ((own_o).toInt64 + (1 : Int64))) * ((own_o).toInt64 + (1 : Int64)))).toInt32)]) _
        skip
        show oS p e below T7 (mkF m 84 #[iv p0, iv p1, iv p2, iv p3, iv 0, rv aE, iv own_o, iv (own_r p1 own_o), .unset, .unset, .unset, .unset, .unset, .unset, .unset, .unset, .unset, .unset, .unset] [(.int (own_r p2 own_o))]) _
        refine XS.istore X7.here hx rfl (hb hby at_84) rfl (l' := #[iv p0, iv p1, iv p2, iv p3, iv 0, rv aE, iv own_o, iv (own_r p1 own_o), iv (own_r p2 own_o), .unset, .unset, .unset, .unset, .unset, .unset, .unset, .unset, .unset, .unset]) rfl ?_
        refine XS.iload X7.here hx rfl (hb hby at_86) rfl ?_
        refine XS.iload X7.here hx rfl (hb hby at_88) rfl ?_
        refine st11 _ ?_
        refine st12 _ ?_
        refine XS.astore X12.here hx rfl (hb hby at_96) rfl rfl (l' := #[iv p0, iv p1, iv p2, iv p3, iv 0, rv aE, iv own_o, iv (own_r p1 own_o), iv (own_r p2 own_o), rv b12, .unset, .unset, .unset, .unset, .unset, .unset, .unset, .unset, .unset]) rfl ?_
        refine XS.iload X12.here hx rfl (hb hby at_98) rfl ?_
        show oS p e below T12 (mkF m 100 #[iv p0, iv p1, iv p2, iv p3, iv 0, rv aE, iv own_o, iv (own_r p1 own_o), iv (own_r p2 own_o), rv b12, .unset, .unset, .unset, .unset, .unset, .unset, .unset, .unset, .unset] [(.int own_o)]) _
        refine XS.iload X12.here hx rfl (hb hby at_100) rfl ?_
        refine st15 _ ?_
        refine st19 _ ?_
        refine XS.astore X19.here hx rfl (hb hby at_108) rfl rfl (l' := #[iv p0, iv p1, iv p2, iv p3, iv 0, rv aE, iv own_o, iv (own_r p1 own_o), iv (own_r p2 own_o), rv b12, rv b19, .unset, .unset, .unset, .unset, .unset, .unset, .unset, .unset]) rfl ?_
        refine XS.aload X19.here hx rfl (hb hby at_110) rfl rfl ?_
        refine st25 _ ?_
        refine XS.ifNo X25.here hx rfl (hb hby at_115) rfl (XT.i0_eq_f (by decide)) ?_
        refine XS.aload X25.here hx rfl (hb hby at_118) rfl rfl ?_
        refine st27 _ ?_
        refine XS.ifYes X27.here hx rfl (pc0 := 123) (pc' := 128) rfl (hb hby at_123) rfl (XT.i0_ne_t (by decide)) (by decide) (by decide) ?_
        show oS p e below T27 (mkF m 128 #[iv p0, iv p1, iv p2, iv p3, iv 0, rv aE, iv own_o, iv (own_r p1 own_o), iv (own_r p2 own_o), rv b12, rv b19, .unset, .unset, .unset, .unset, .unset, .unset, .unset, .unset] []) _
        refine XS.aload X27.here hx rfl (hb hby at_128) rfl rfl ?_
        refine st29 _ ?_
        refine XS.dstore X29.here hx rfl (hb hby at_133) rfl (l' := #[iv p0, iv p1, iv p2, iv p3, iv 0, rv aE, iv own_o, iv (own_r p1 own_o), iv (own_r p2 own_o), rv b12, rv b19, .val (.double (FP.ddiv (FP.i2d (own_r p1 own_o)) (FP.i2d own_o))), .second, .unset, .unset, .unset, .unset, .unset, .unset]) rfl ?_
        refine XS.aload X29.here hx rfl (hb hby at_135) rfl rfl ?_
        refine st30 _ ?_
        refine XS.dstore X30.here hx rfl (hb hby at_140) rfl (l' := #[iv p0, iv p1, iv p2, iv p3, iv 0, rv aE, iv own_o, iv (own_r p1 own_o), iv (own_r p2 own_o), rv b12, rv b19, .val (.double (FP.ddiv (FP.i2d (own_r p1 own_o)) (FP.i2d own_o))), .second, .val (.double (FP.ddiv (FP.i2d (own_r p2 own_o)) (FP.i2d own_o))), .second, .unset, .unset, .unset, .unset]) rfl ?_
        exact kz)
      have M32 : ∀ tz, oS p e below T30 (mkF m 158 #[iv p0, iv p1, iv p2, iv p3, iv 0, rv aE, iv own_o, iv (own_r p1 own_o), iv (own_r p2 own_o), rv b12, rv b19, .val (.double (FP.ddiv (FP.i2d (own_r p1 own_o)) (FP.i2d own_o))), .second, .val (.double (FP.ddiv (FP.i2d (own_r p2 own_o)) (FP.i2d own_o))), .second, .unset, .unset, .unset, .unset] []) tz → oS p e below T30 (mkF m 142 #[iv p0, iv p1, iv p2, iv p3, iv 0, rv aE, iv own_o, iv (own_r p1 own_o), iv (own_r p2 own_o), rv b12, rv b19, .val (.double (FP.ddiv (FP.i2d (own_r p1 own_o)) (FP.i2d own_o))), .second, .val (.double (FP.ddiv (FP.i2d (own_r p2 own_o)) (FP.i2d own_o))), .second, .unset, .unset, .unset, .unset] []) tz := by
        intro tz kz
        have S33 : ∀ tz, oS p e below T30 (mkF m 158 #[iv p0, iv p1, iv p2, iv p3, iv 0, rv aE, iv own_o, iv (own_r p1 own_o), iv (own_r p2 own_o), rv b12, rv b19, .val (.double (FP.ddiv (FP.i2d (own_r p1 own_o)) (FP.i2d own_o))), .second, .val (.double (FP.ddiv (FP.i2d (own_r p2 own_o)) (FP.i2d own_o))), .second, .unset, .unset, .unset, .unset] []) tz → oS p e below T30 (mkF m 142 #[iv p0, iv p1, iv p2, iv p3, iv 0, rv aE, iv own_o, iv (own_r p1 own_o), iv (own_r p2 own_o), rv b12, rv b19, .val (.double (FP.ddiv (FP.i2d (own_r p1 own_o)) (FP.i2d own_o))), .second, .val (.double (FP.ddiv (FP.i2d (own_r p2 own_o)) (FP.i2d own_o))), .second, .unset, .unset, .unset, .unset] []) tz := fun tz kz => id (by
          show oS p e below T30 (mkF m 142 #[iv p0, iv p1, iv p2, iv p3, iv 0, rv aE, iv own_o, iv (own_r p1 own_o), iv (own_r p2 own_o), rv b12, rv b19, .val (.double (FP.ddiv (FP.i2d (own_r p1 own_o)) (FP.i2d own_o))), .second, .val (.double (FP.ddiv (FP.i2d (own_r p2 own_o)) (FP.i2d own_o))), .second, .unset, .unset, .unset, .unset] []) _
          refine XS.dload X30.here hx rfl (hb hby at_142) rfl ?_
          refine XS.dconst0 X30.here hx rfl (hb hby at_144) rfl ?_
          refine XS.dcmpS X30.here hx rfl (hb hby at_145) rfl rfl ?_
          refine XS.ifNo X30.here hx rfl (hb hby at_146) rfl (XT.i0_lt_f (own_t0 (own_rv p1 own_opos) own_opos)) ?_
          show oS p e below T30 (mkF m 149 #[iv p0, iv p1, iv p2, iv p3, iv 0, rv aE, iv own_o, iv (own_r p1 own_o), iv (own_r p2 own_o), rv b12, rv b19, .val (.double (FP.ddiv (FP.i2d (own_r p1 own_o)) (FP.i2d own_o))), .second, .val (.double (FP.ddiv (FP.i2d (own_r p2 own_o)) (FP.i2d own_o))), .second, .unset, .unset, .unset, .unset] []) _
          refine XS.dload X30.here hx rfl (hb hby at_149) rfl ?_
          refine XS.dconst1 X30.here hx rfl (hb hby at_151) rfl ?_
          refine XS.dcmpS X30.here hx rfl (hb hby at_152) rfl rfl ?_
          refine XS.ifYes X30.here hx rfl (pc0 := 153) (pc' := 158) rfl (hb hby at_153) rfl (XT.i0_le_t (own_t1 (own_rv p1 own_opos) own_opos)) (by decide) (by decide) ?_
          exact kz)
        exact S33 tz kz
      have S34 : ∀ tz, oS p e below T30 (mkF m 158 #[iv p0, iv p1, iv p2, iv p3, iv 0, rv aE, iv own_o, iv (own_r p1 own_o), iv (own_r p2 own_o), rv b12, rv b19, .val (.double (FP.ddiv (FP.i2d (own_r p1 own_o)) (FP.i2d own_o))), .second, .val (.double (FP.ddiv (FP.i2d (own_r p2 own_o)) (FP.i2d own_o))), .second, .unset, .unset, .unset, .unset] []) tz → oS p e below s₁ (mkF m 0 #[iv p0, iv p1, iv p2, iv p3, .unset, .unset, .unset, .unset, .unset, .unset, .unset, .unset, .unset, .unset, .unset, .unset, .unset, .unset, .unset] []) tz := fun tz kz => S31 tz (by
        show oS p e below T30 (mkF m 142 #[iv p0, iv p1, iv p2, iv p3, iv 0, rv aE, iv own_o, iv (own_r p1 own_o), iv (own_r p2 own_o), rv b12, rv b19, .val (.double (FP.ddiv (FP.i2d (own_r p1 own_o)) (FP.i2d own_o))), .second, .val (.double (FP.ddiv (FP.i2d (own_r p2 own_o)) (FP.i2d own_o))), .second, .unset, .unset, .unset, .unset] []) _
        refine M32 _ ?_
        show oS p e below T30 (mkF m 158 #[iv p0, iv p1, iv p2, iv p3, iv 0, rv aE, iv own_o, iv (own_r p1 own_o), iv (own_r p2 own_o), rv b12, rv b19, .val (.double (FP.ddiv (FP.i2d (own_r p1 own_o)) (FP.i2d own_o))), .second, .val (.double (FP.ddiv (FP.i2d (own_r p2 own_o)) (FP.i2d own_o))), .second, .unset, .unset, .unset, .unset] []) _
        exact kz)
      have M35 : ∀ tz, oS p e below T30 (mkF m 185 #[iv p0, iv p1, iv p2, iv p3, iv 0, rv aE, iv own_o, iv (own_r p1 own_o), iv (own_r p2 own_o), rv b12, rv b19, .val (.double (FP.ddiv (FP.i2d (own_r p1 own_o)) (FP.i2d own_o))), .second, .val (.double (FP.ddiv (FP.i2d (own_r p2 own_o)) (FP.i2d own_o))), .second, .unset, .unset, .unset, .unset] []) tz → oS p e below T30 (mkF m 158 #[iv p0, iv p1, iv p2, iv p3, iv 0, rv aE, iv own_o, iv (own_r p1 own_o), iv (own_r p2 own_o), rv b12, rv b19, .val (.double (FP.ddiv (FP.i2d (own_r p1 own_o)) (FP.i2d own_o))), .second, .val (.double (FP.ddiv (FP.i2d (own_r p2 own_o)) (FP.i2d own_o))), .second, .unset, .unset, .unset, .unset] []) tz := by
        intro tz kz
        by_cases hf158_36 : (own_r p1 own_o) = (0 : Int32)
        · have S37 : ∀ tz, oS p e below T30 (mkF m 185 #[iv p0, iv p1, iv p2, iv p3, iv 0, rv aE, iv own_o, iv (own_r p1 own_o), iv (own_r p2 own_o), rv b12, rv b19, .val (.double (FP.ddiv (FP.i2d (own_r p1 own_o)) (FP.i2d own_o))), .second, .val (.double (FP.ddiv (FP.i2d (own_r p2 own_o)) (FP.i2d own_o))), .second, .unset, .unset, .unset, .unset] []) tz → oS p e below T30 (mkF m 158 #[iv p0, iv p1, iv p2, iv p3, iv 0, rv aE, iv own_o, iv (own_r p1 own_o), iv (own_r p2 own_o), rv b12, rv b19, .val (.double (FP.ddiv (FP.i2d (own_r p1 own_o)) (FP.i2d own_o))), .second, .val (.double (FP.ddiv (FP.i2d (own_r p2 own_o)) (FP.i2d own_o))), .second, .unset, .unset, .unset, .unset] []) tz := fun tz kz => id (by
            show oS p e below T30 (mkF m 158 #[iv p0, iv p1, iv p2, iv p3, iv 0, rv aE, iv own_o, iv (own_r p1 own_o), iv (own_r p2 own_o), rv b12, rv b19, .val (.double (FP.ddiv (FP.i2d (own_r p1 own_o)) (FP.i2d own_o))), .second, .val (.double (FP.ddiv (FP.i2d (own_r p2 own_o)) (FP.i2d own_o))), .second, .unset, .unset, .unset, .unset] []) _
            refine XS.dload X30.here hx rfl (hb hby at_158) rfl ?_
            refine XS.dconst0 X30.here hx rfl (hb hby at_160) rfl ?_
            refine XS.dcmpS X30.here hx rfl (hb hby at_161) rfl rfl ?_
            show oS p e below T30 (mkF m 162 #[iv p0, iv p1, iv p2, iv p3, iv 0, rv aE, iv own_o, iv (own_r p1 own_o), iv (own_r p2 own_o), rv b12, rv b19, .val (.double (FP.ddiv (FP.i2d (own_r p1 own_o)) (FP.i2d own_o))), .second, .val (.double (FP.ddiv (FP.i2d (own_r p2 own_o)) (FP.i2d own_o))), .second, .unset, .unset, .unset, .unset] [(.int (cmpValue (FP.dcmp (FP.ddiv (FP.i2d (own_r p1 own_o)) (FP.i2d own_o)) FP.dconst0) .l))]) _
            refine XS.ifNo X30.here hx rfl (hb hby at_162) rfl (XT.i0_ne_f ((own_z0 (own_rv p1 own_opos) own_opos).mpr hf158_36)) ?_
            refine XT.iconstV X30.here hx rfl (1 : Int32) (hb hby at_165) (by decide) ?_
            refine XS.goto X30.here hx rfl (pc0 := 166) (pc' := 170) rfl (hb hby at_166) (by decide) (by decide) ?_
            refine XS.iload X30.here hx rfl (hb hby at_170) rfl ?_
            refine XS.ifNo X30.here hx rfl (hb hby at_172) rfl (XT.i0_ne_f hf158_36) ?_
            refine XT.iconstV X30.here hx rfl (1 : Int32) (hb hby at_175) (by decide) ?_
            refine XS.goto X30.here hx rfl (pc0 := 176) (pc' := 180) rfl (hb hby at_176) (by decide) (by decide) ?_
            refine XS.icmpYes X30.here hx rfl (pc0 := 180) (pc' := 185) rfl (hb hby at_180) rfl (XT.ii_eq_t (by decide)) (by decide) (by decide) ?_
            exact kz)
          exact S37 tz kz
        · have S38 : ∀ tz, oS p e below T30 (mkF m 185 #[iv p0, iv p1, iv p2, iv p3, iv 0, rv aE, iv own_o, iv (own_r p1 own_o), iv (own_r p2 own_o), rv b12, rv b19, .val (.double (FP.ddiv (FP.i2d (own_r p1 own_o)) (FP.i2d own_o))), .second, .val (.double (FP.ddiv (FP.i2d (own_r p2 own_o)) (FP.i2d own_o))), .second, .unset, .unset, .unset, .unset] []) tz → oS p e below T30 (mkF m 158 #[iv p0, iv p1, iv p2, iv p3, iv 0, rv aE, iv own_o, iv (own_r p1 own_o), iv (own_r p2 own_o), rv b12, rv b19, .val (.double (FP.ddiv (FP.i2d (own_r p1 own_o)) (FP.i2d own_o))), .second, .val (.double (FP.ddiv (FP.i2d (own_r p2 own_o)) (FP.i2d own_o))), .second, .unset, .unset, .unset, .unset] []) tz := fun tz kz => id (by
            show oS p e below T30 (mkF m 158 #[iv p0, iv p1, iv p2, iv p3, iv 0, rv aE, iv own_o, iv (own_r p1 own_o), iv (own_r p2 own_o), rv b12, rv b19, .val (.double (FP.ddiv (FP.i2d (own_r p1 own_o)) (FP.i2d own_o))), .second, .val (.double (FP.ddiv (FP.i2d (own_r p2 own_o)) (FP.i2d own_o))), .second, .unset, .unset, .unset, .unset] []) _
            refine XS.dload X30.here hx rfl (hb hby at_158) rfl ?_
            refine XS.dconst0 X30.here hx rfl (hb hby at_160) rfl ?_
            refine XS.dcmpS X30.here hx rfl (hb hby at_161) rfl rfl ?_
            show oS p e below T30 (mkF m 162 #[iv p0, iv p1, iv p2, iv p3, iv 0, rv aE, iv own_o, iv (own_r p1 own_o), iv (own_r p2 own_o), rv b12, rv b19, .val (.double (FP.ddiv (FP.i2d (own_r p1 own_o)) (FP.i2d own_o))), .second, .val (.double (FP.ddiv (FP.i2d (own_r p2 own_o)) (FP.i2d own_o))), .second, .unset, .unset, .unset, .unset] [(.int (cmpValue (FP.dcmp (FP.ddiv (FP.i2d (own_r p1 own_o)) (FP.i2d own_o)) FP.dconst0) .l))]) _
            refine XS.ifYes X30.here hx rfl (pc0 := 162) (pc' := 169) rfl (hb hby at_162) rfl (XT.i0_ne_t (fun q => hf158_36 ((own_z0 (own_rv p1 own_opos) own_opos).mp q))) (by decide) (by decide) ?_
            refine XT.iconstV X30.here hx rfl (0 : Int32) (hb hby at_169) (by decide) ?_
            refine XS.iload X30.here hx rfl (hb hby at_170) rfl ?_
            refine XS.ifYes X30.here hx rfl (pc0 := 172) (pc' := 179) rfl (hb hby at_172) rfl (XT.i0_ne_t hf158_36) (by decide) (by decide) ?_
            refine XT.iconstV X30.here hx rfl (0 : Int32) (hb hby at_179) (by decide) ?_
            refine XS.icmpYes X30.here hx rfl (pc0 := 180) (pc' := 185) rfl (hb hby at_180) rfl (XT.ii_eq_t (by decide)) (by decide) (by decide) ?_
            exact kz)
          exact S38 tz kz
      have S39 : ∀ tz, oS p e below T30 (mkF m 185 #[iv p0, iv p1, iv p2, iv p3, iv 0, rv aE, iv own_o, iv (own_r p1 own_o), iv (own_r p2 own_o), rv b12, rv b19, .val (.double (FP.ddiv (FP.i2d (own_r p1 own_o)) (FP.i2d own_o))), .second, .val (.double (FP.ddiv (FP.i2d (own_r p2 own_o)) (FP.i2d own_o))), .second, .unset, .unset, .unset, .unset] []) tz → oS p e below s₁ (mkF m 0 #[iv p0, iv p1, iv p2, iv p3, .unset, .unset, .unset, .unset, .unset, .unset, .unset, .unset, .unset, .unset, .unset, .unset, .unset, .unset, .unset] []) tz := fun tz kz => S34 tz (by
        show oS p e below T30 (mkF m 158 #[iv p0, iv p1, iv p2, iv p3, iv 0, rv aE, iv own_o, iv (own_r p1 own_o), iv (own_r p2 own_o), rv b12, rv b19, .val (.double (FP.ddiv (FP.i2d (own_r p1 own_o)) (FP.i2d own_o))), .second, .val (.double (FP.ddiv (FP.i2d (own_r p2 own_o)) (FP.i2d own_o))), .second, .unset, .unset, .unset, .unset] []) _
        refine M35 _ ?_
        show oS p e below T30 (mkF m 185 #[iv p0, iv p1, iv p2, iv p3, iv 0, rv aE, iv own_o, iv (own_r p1 own_o), iv (own_r p2 own_o), rv b12, rv b19, .val (.double (FP.ddiv (FP.i2d (own_r p1 own_o)) (FP.i2d own_o))), .second, .val (.double (FP.ddiv (FP.i2d (own_r p2 own_o)) (FP.i2d own_o))), .second, .unset, .unset, .unset, .unset] []) _
        exact kz)
      have M40 : ∀ tz, oS p e below T30 (mkF m 214 #[iv p0, iv p1, iv p2, iv p3, iv 0, rv aE, iv own_o, iv (own_r p1 own_o), iv (own_r p2 own_o), rv b12, rv b19, .val (.double (FP.ddiv (FP.i2d (own_r p1 own_o)) (FP.i2d own_o))), .second, .val (.double (FP.ddiv (FP.i2d (own_r p2 own_o)) (FP.i2d own_o))), .second, .unset, .unset, .unset, .unset] []) tz → oS p e below T30 (mkF m 185 #[iv p0, iv p1, iv p2, iv p3, iv 0, rv aE, iv own_o, iv (own_r p1 own_o), iv (own_r p2 own_o), rv b12, rv b19, .val (.double (FP.ddiv (FP.i2d (own_r p1 own_o)) (FP.i2d own_o))), .second, .val (.double (FP.ddiv (FP.i2d (own_r p2 own_o)) (FP.i2d own_o))), .second, .unset, .unset, .unset, .unset] []) tz := by
        intro tz kz
        by_cases hf185_41 : (own_r p1 own_o) = own_o
        · have S42 : ∀ tz, oS p e below T30 (mkF m 214 #[iv p0, iv p1, iv p2, iv p3, iv 0, rv aE, iv own_o, iv (own_r p1 own_o), iv (own_r p2 own_o), rv b12, rv b19, .val (.double (FP.ddiv (FP.i2d (own_r p1 own_o)) (FP.i2d own_o))), .second, .val (.double (FP.ddiv (FP.i2d (own_r p2 own_o)) (FP.i2d own_o))), .second, .unset, .unset, .unset, .unset] []) tz → oS p e below T30 (mkF m 185 #[iv p0, iv p1, iv p2, iv p3, iv 0, rv aE, iv own_o, iv (own_r p1 own_o), iv (own_r p2 own_o), rv b12, rv b19, .val (.double (FP.ddiv (FP.i2d (own_r p1 own_o)) (FP.i2d own_o))), .second, .val (.double (FP.ddiv (FP.i2d (own_r p2 own_o)) (FP.i2d own_o))), .second, .unset, .unset, .unset, .unset] []) tz := fun tz kz => id (by
            show oS p e below T30 (mkF m 185 #[iv p0, iv p1, iv p2, iv p3, iv 0, rv aE, iv own_o, iv (own_r p1 own_o), iv (own_r p2 own_o), rv b12, rv b19, .val (.double (FP.ddiv (FP.i2d (own_r p1 own_o)) (FP.i2d own_o))), .second, .val (.double (FP.ddiv (FP.i2d (own_r p2 own_o)) (FP.i2d own_o))), .second, .unset, .unset, .unset, .unset] []) _
            refine XS.dload X30.here hx rfl (hb hby at_185) rfl ?_
            refine XS.dconst1 X30.here hx rfl (hb hby at_187) rfl ?_
            show oS p e below T30 (mkF m 188 #[iv p0, iv p1, iv p2, iv p3, iv 0, rv aE, iv own_o, iv (own_r p1 own_o), iv (own_r p2 own_o), rv b12, rv b19, .val (.double (FP.ddiv (FP.i2d (own_r p1 own_o)) (FP.i2d own_o))), .second, .val (.double (FP.ddiv (FP.i2d (own_r p2 own_o)) (FP.i2d own_o))), .second, .unset, .unset, .unset, .unset] [(.double FP.dconst1), (.double (FP.ddiv (FP.i2d (own_r p1 own_o)) (FP.i2d own_o)))]) _
            refine XS.dcmpS X30.here hx rfl (hb hby at_188) rfl rfl ?_
            refine XS.ifNo X30.here hx rfl (hb hby at_189) rfl (XT.i0_ne_f ((own_z1 (own_rv p1 own_opos) own_opos).mpr hf185_41)) ?_
            refine XT.iconstV X30.here hx rfl (1 : Int32) (hb hby at_192) (by decide) ?_
            refine XS.goto X30.here hx rfl (pc0 := 193) (pc' := 197) rfl (hb hby at_193) (by decide) (by decide) ?_
            refine XS.iload X30.here hx rfl (hb hby at_197) rfl ?_
            refine XS.iload X30.here hx rfl (hb hby at_199) rfl ?_
            refine XS.icmpNo X30.here hx rfl (hb hby at_201) rfl (XT.ii_ne_f hf185_41) ?_
            refine XT.iconstV X30.here hx rfl (1 : Int32) (hb hby at_204) (by decide) ?_
            refine XS.goto X30.here hx rfl (pc0 := 205) (pc' := 209) rfl (hb hby at_205) (by decide) (by decide) ?_
            refine XS.icmpYes X30.here hx rfl (pc0 := 209) (pc' := 214) rfl (hb hby at_209) rfl (XT.ii_eq_t (by decide)) (by decide) (by decide) ?_
            show oS p e below T30 (mkF m 214 #[iv p0, iv p1, iv p2, iv p3, iv 0, rv aE, iv own_o, iv (own_r p1 own_o), iv (own_r p2 own_o), rv b12, rv b19, .val (.double (FP.ddiv (FP.i2d (own_r p1 own_o)) (FP.i2d own_o))), .second, .val (.double (FP.ddiv (FP.i2d (own_r p2 own_o)) (FP.i2d own_o))), .second, .unset, .unset, .unset, .unset] []) _
            exact kz)
          exact S42 tz kz
        · have S43 : ∀ tz, oS p e below T30 (mkF m 214 #[iv p0, iv p1, iv p2, iv p3, iv 0, rv aE, iv own_o, iv (own_r p1 own_o), iv (own_r p2 own_o), rv b12, rv b19, .val (.double (FP.ddiv (FP.i2d (own_r p1 own_o)) (FP.i2d own_o))), .second, .val (.double (FP.ddiv (FP.i2d (own_r p2 own_o)) (FP.i2d own_o))), .second, .unset, .unset, .unset, .unset] []) tz → oS p e below T30 (mkF m 185 #[iv p0, iv p1, iv p2, iv p3, iv 0, rv aE, iv own_o, iv (own_r p1 own_o), iv (own_r p2 own_o), rv b12, rv b19, .val (.double (FP.ddiv (FP.i2d (own_r p1 own_o)) (FP.i2d own_o))), .second, .val (.double (FP.ddiv (FP.i2d (own_r p2 own_o)) (FP.i2d own_o))), .second, .unset, .unset, .unset, .unset] []) tz := fun tz kz => id (by
            show oS p e below T30 (mkF m 185 #[iv p0, iv p1, iv p2, iv p3, iv 0, rv aE, iv own_o, iv (own_r p1 own_o), iv (own_r p2 own_o), rv b12, rv b19, .val (.double (FP.ddiv (FP.i2d (own_r p1 own_o)) (FP.i2d own_o))), .second, .val (.double (FP.ddiv (FP.i2d (own_r p2 own_o)) (FP.i2d own_o))), .second, .unset, .unset, .unset, .unset] []) _
            refine XS.dload X30.here hx rfl (hb hby at_185) rfl ?_
            refine XS.dconst1 X30.here hx rfl (hb hby at_187) rfl ?_
            show oS p e below T30 (mkF m 188 #[iv p0, iv p1, iv p2, iv p3, iv 0, rv aE, iv own_o, iv (own_r p1 own_o), iv (own_r p2 own_o), rv b12, rv b19, .val (.double (FP.ddiv (FP.i2d (own_r p1 own_o)) (FP.i2d own_o))), .second, .val (.double (FP.ddiv (FP.i2d (own_r p2 own_o)) (FP.i2d own_o))), .second, .unset, .unset, .unset, .unset] [(.double FP.dconst1), (.double (FP.ddiv (FP.i2d (own_r p1 own_o)) (FP.i2d own_o)))]) _
            refine XS.dcmpS X30.here hx rfl (hb hby at_188) rfl rfl ?_
            refine XS.ifYes X30.here hx rfl (pc0 := 189) (pc' := 196) rfl (hb hby at_189) rfl (XT.i0_ne_t (fun q => hf185_41 ((own_z1 (own_rv p1 own_opos) own_opos).mp q))) (by decide) (by decide) ?_
            refine XT.iconstV X30.here hx rfl (0 : Int32) (hb hby at_196) (by decide) ?_
            refine XS.iload X30.here hx rfl (hb hby at_197) rfl ?_
            refine XS.iload X30.here hx rfl (hb hby at_199) rfl ?_
            refine XS.icmpYes X30.here hx rfl (pc0 := 201) (pc' := 208) rfl (hb hby at_201) rfl (XT.ii_ne_t hf185_41) (by decide) (by decide) ?_
            refine XT.iconstV X30.here hx rfl (0 : Int32) (hb hby at_208) (by decide) ?_
            refine XS.icmpYes X30.here hx rfl (pc0 := 209) (pc' := 214) rfl (hb hby at_209) rfl (XT.ii_eq_t (by decide)) (by decide) (by decide) ?_
            exact kz)
          exact S43 tz kz
      have S44 : ∀ tz, oS p e below T30 (mkF m 214 #[iv p0, iv p1, iv p2, iv p3, iv 0, rv aE, iv own_o, iv (own_r p1 own_o), iv (own_r p2 own_o), rv b12, rv b19, .val (.double (FP.ddiv (FP.i2d (own_r p1 own_o)) (FP.i2d own_o))), .second, .val (.double (FP.ddiv (FP.i2d (own_r p2 own_o)) (FP.i2d own_o))), .second, .unset, .unset, .unset, .unset] []) tz → oS p e below s₁ (mkF m 0 #[iv p0, iv p1, iv p2, iv p3, .unset, .unset, .unset, .unset, .unset, .unset, .unset, .unset, .unset, .unset, .unset, .unset, .unset, .unset, .unset] []) tz := fun tz kz => S39 tz (by
        show oS p e below T30 (mkF m 185 #[iv p0, iv p1, iv p2, iv p3, iv 0, rv aE, iv own_o, iv (own_r p1 own_o), iv (own_r p2 own_o), rv b12, rv b19, .val (.double (FP.ddiv (FP.i2d (own_r p1 own_o)) (FP.i2d own_o))), .second, .val (.double (FP.ddiv (FP.i2d (own_r p2 own_o)) (FP.i2d own_o))), .second, .unset, .unset, .unset, .unset] []) _
        refine M40 _ ?_
        show oS p e below T30 (mkF m 214 #[iv p0, iv p1, iv p2, iv p3, iv 0, rv aE, iv own_o, iv (own_r p1 own_o), iv (own_r p2 own_o), rv b12, rv b19, .val (.double (FP.ddiv (FP.i2d (own_r p1 own_o)) (FP.i2d own_o))), .second, .val (.double (FP.ddiv (FP.i2d (own_r p2 own_o)) (FP.i2d own_o))), .second, .unset, .unset, .unset, .unset] []) _
        exact kz)
      have M45 : ∀ tz, oS p e below T30 (mkF m 244 #[iv p0, iv p1, iv p2, iv p3, iv 0, rv aE, iv own_o, iv (own_r p1 own_o), iv (own_r p2 own_o), rv b12, rv b19, .val (.double (FP.ddiv (FP.i2d (own_r p1 own_o)) (FP.i2d own_o))), .second, .val (.double (FP.ddiv (FP.i2d (own_r p2 own_o)) (FP.i2d own_o))), .second, .unset, .unset, .unset, .unset] []) tz → oS p e below T30 (mkF m 214 #[iv p0, iv p1, iv p2, iv p3, iv 0, rv aE, iv own_o, iv (own_r p1 own_o), iv (own_r p2 own_o), rv b12, rv b19, .val (.double (FP.ddiv (FP.i2d (own_r p1 own_o)) (FP.i2d own_o))), .second, .val (.double (FP.ddiv (FP.i2d (own_r p2 own_o)) (FP.i2d own_o))), .second, .unset, .unset, .unset, .unset] []) tz := by
        intro tz kz
        by_cases hf214_46 : (own_r p1 own_o) < (own_r p2 own_o)
        · have S47 : ∀ tz, oS p e below T30 (mkF m 244 #[iv p0, iv p1, iv p2, iv p3, iv 0, rv aE, iv own_o, iv (own_r p1 own_o), iv (own_r p2 own_o), rv b12, rv b19, .val (.double (FP.ddiv (FP.i2d (own_r p1 own_o)) (FP.i2d own_o))), .second, .val (.double (FP.ddiv (FP.i2d (own_r p2 own_o)) (FP.i2d own_o))), .second, .unset, .unset, .unset, .unset] []) tz → oS p e below T30 (mkF m 214 #[iv p0, iv p1, iv p2, iv p3, iv 0, rv aE, iv own_o, iv (own_r p1 own_o), iv (own_r p2 own_o), rv b12, rv b19, .val (.double (FP.ddiv (FP.i2d (own_r p1 own_o)) (FP.i2d own_o))), .second, .val (.double (FP.ddiv (FP.i2d (own_r p2 own_o)) (FP.i2d own_o))), .second, .unset, .unset, .unset, .unset] []) tz := fun tz kz => id (by
            show oS p e below T30 (mkF m 214 #[iv p0, iv p1, iv p2, iv p3, iv 0, rv aE, iv own_o, iv (own_r p1 own_o), iv (own_r p2 own_o), rv b12, rv b19, .val (.double (FP.ddiv (FP.i2d (own_r p1 own_o)) (FP.i2d own_o))), .second, .val (.double (FP.ddiv (FP.i2d (own_r p2 own_o)) (FP.i2d own_o))), .second, .unset, .unset, .unset, .unset] []) _
            refine XS.iload X30.here hx rfl (hb hby at_214) rfl ?_
            show oS p e below T30 (mkF m 216 #[iv p0, iv p1, iv p2, iv p3, iv 0, rv aE, iv own_o, iv (own_r p1 own_o), iv (own_r p2 own_o), rv b12, rv b19, .val (.double (FP.ddiv (FP.i2d (own_r p1 own_o)) (FP.i2d own_o))), .second, .val (.double (FP.ddiv (FP.i2d (own_r p2 own_o)) (FP.i2d own_o))), .second, .unset, .unset, .unset, .unset] [(.int (own_r p1 own_o))]) _
            refine XS.iload X30.here hx rfl (hb hby at_216) rfl ?_
            refine XS.icmpNo X30.here hx rfl (hb hby at_218) rfl (XT.ii_ge_f hf214_46) ?_
            refine XT.iconstV X30.here hx rfl (1 : Int32) (hb hby at_221) (by decide) ?_
            refine XS.goto X30.here hx rfl (pc0 := 222) (pc' := 226) rfl (hb hby at_222) (by decide) (by decide) ?_
            refine XS.dload X30.here hx rfl (hb hby at_226) rfl ?_
            refine XS.dload X30.here hx rfl (hb hby at_228) rfl ?_
            refine XS.dcmpS X30.here hx rfl (hb hby at_230) rfl rfl ?_
            refine XS.ifNo X30.here hx rfl (hb hby at_231) rfl (XT.i0_ge_f ((own_tl (own_rv p1 own_opos) (own_rv p2 own_opos) own_opos).mpr hf214_46)) ?_
            refine XT.iconstV X30.here hx rfl (1 : Int32) (hb hby at_234) (by decide) ?_
            refine XS.goto X30.here hx rfl (pc0 := 235) (pc' := 239) rfl (hb hby at_235) (by decide) (by decide) ?_
            show oS p e below T30 (mkF m 239 #[iv p0, iv p1, iv p2, iv p3, iv 0, rv aE, iv own_o, iv (own_r p1 own_o), iv (own_r p2 own_o), rv b12, rv b19, .val (.double (FP.ddiv (FP.i2d (own_r p1 own_o)) (FP.i2d own_o))), .second, .val (.double (FP.ddiv (FP.i2d (own_r p2 own_o)) (FP.i2d own_o))), .second, .unset, .unset, .unset, .unset] [(.int 1), (.int 1)]) _
            refine XS.icmpYes X30.here hx rfl (pc0 := 239) (pc' := 244) rfl (hb hby at_239) rfl (XT.ii_eq_t (by decide)) (by decide) (by decide) ?_
            exact kz)
          exact S47 tz kz
        · have S48 : ∀ tz, oS p e below T30 (mkF m 244 #[iv p0, iv p1, iv p2, iv p3, iv 0, rv aE, iv own_o, iv (own_r p1 own_o), iv (own_r p2 own_o), rv b12, rv b19, .val (.double (FP.ddiv (FP.i2d (own_r p1 own_o)) (FP.i2d own_o))), .second, .val (.double (FP.ddiv (FP.i2d (own_r p2 own_o)) (FP.i2d own_o))), .second, .unset, .unset, .unset, .unset] []) tz → oS p e below T30 (mkF m 214 #[iv p0, iv p1, iv p2, iv p3, iv 0, rv aE, iv own_o, iv (own_r p1 own_o), iv (own_r p2 own_o), rv b12, rv b19, .val (.double (FP.ddiv (FP.i2d (own_r p1 own_o)) (FP.i2d own_o))), .second, .val (.double (FP.ddiv (FP.i2d (own_r p2 own_o)) (FP.i2d own_o))), .second, .unset, .unset, .unset, .unset] []) tz := fun tz kz => id (by
            show oS p e below T30 (mkF m 214 #[iv p0, iv p1, iv p2, iv p3, iv 0, rv aE, iv own_o, iv (own_r p1 own_o), iv (own_r p2 own_o), rv b12, rv b19, .val (.double (FP.ddiv (FP.i2d (own_r p1 own_o)) (FP.i2d own_o))), .second, .val (.double (FP.ddiv (FP.i2d (own_r p2 own_o)) (FP.i2d own_o))), .second, .unset, .unset, .unset, .unset] []) _
            refine XS.iload X30.here hx rfl (hb hby at_214) rfl ?_
            show oS p e below T30 (mkF m 216 #[iv p0, iv p1, iv p2, iv p3, iv 0, rv aE, iv own_o, iv (own_r p1 own_o), iv (own_r p2 own_o), rv b12, rv b19, .val (.double (FP.ddiv (FP.i2d (own_r p1 own_o)) (FP.i2d own_o))), .second, .val (.double (FP.ddiv (FP.i2d (own_r p2 own_o)) (FP.i2d own_o))), .second, .unset, .unset, .unset, .unset] [(.int (own_r p1 own_o))]) _
            refine XS.iload X30.here hx rfl (hb hby at_216) rfl ?_
            refine XS.icmpYes X30.here hx rfl (pc0 := 218) (pc' := 225) rfl (hb hby at_218) rfl (XT.ii_ge_t hf214_46) (by decide) (by decide) ?_
            refine XT.iconstV X30.here hx rfl (0 : Int32) (hb hby at_225) (by decide) ?_
            refine XS.dload X30.here hx rfl (hb hby at_226) rfl ?_
            refine XS.dload X30.here hx rfl (hb hby at_228) rfl ?_
            refine XS.dcmpS X30.here hx rfl (hb hby at_230) rfl rfl ?_
            refine XS.ifYes X30.here hx rfl (pc0 := 231) (pc' := 238) rfl (hb hby at_231) rfl (XT.i0_ge_t (fun q => hf214_46 ((own_tl (own_rv p1 own_opos) (own_rv p2 own_opos) own_opos).mp q))) (by decide) (by decide) ?_
            refine XT.iconstV X30.here hx rfl (0 : Int32) (hb hby at_238) (by decide) ?_
            refine XS.icmpYes X30.here hx rfl (pc0 := 239) (pc' := 244) rfl (hb hby at_239) rfl (XT.ii_eq_t (by decide)) (by decide) (by decide) ?_
            exact kz)
          exact S48 tz kz
      have S49 : ∀ tz, oS p e below T30 (mkF m 244 #[iv p0, iv p1, iv p2, iv p3, iv 0, rv aE, iv own_o, iv (own_r p1 own_o), iv (own_r p2 own_o), rv b12, rv b19, .val (.double (FP.ddiv (FP.i2d (own_r p1 own_o)) (FP.i2d own_o))), .second, .val (.double (FP.ddiv (FP.i2d (own_r p2 own_o)) (FP.i2d own_o))), .second, .unset, .unset, .unset, .unset] []) tz → oS p e below s₁ (mkF m 0 #[iv p0, iv p1, iv p2, iv p3, .unset, .unset, .unset, .unset, .unset, .unset, .unset, .unset, .unset, .unset, .unset, .unset, .unset, .unset, .unset] []) tz := fun tz kz => S44 tz (by
        show oS p e below T30 (mkF m 214 #[iv p0, iv p1, iv p2, iv p3, iv 0, rv aE, iv own_o, iv (own_r p1 own_o), iv (own_r p2 own_o), rv b12, rv b19, .val (.double (FP.ddiv (FP.i2d (own_r p1 own_o)) (FP.i2d own_o))), .second, .val (.double (FP.ddiv (FP.i2d (own_r p2 own_o)) (FP.i2d own_o))), .second, .unset, .unset, .unset, .unset] []) _
        refine M45 _ ?_
        show oS p e below T30 (mkF m 244 #[iv p0, iv p1, iv p2, iv p3, iv 0, rv aE, iv own_o, iv (own_r p1 own_o), iv (own_r p2 own_o), rv b12, rv b19, .val (.double (FP.ddiv (FP.i2d (own_r p1 own_o)) (FP.i2d own_o))), .second, .val (.double (FP.ddiv (FP.i2d (own_r p2 own_o)) (FP.i2d own_o))), .second, .unset, .unset, .unset, .unset] []) _
        exact kz)
      have M50 : ∀ tz, oS p e below T30 (mkF m 274 #[iv p0, iv p1, iv p2, iv p3, iv 0, rv aE, iv own_o, iv (own_r p1 own_o), iv (own_r p2 own_o), rv b12, rv b19, .val (.double (FP.ddiv (FP.i2d (own_r p1 own_o)) (FP.i2d own_o))), .second, .val (.double (FP.ddiv (FP.i2d (own_r p2 own_o)) (FP.i2d own_o))), .second, .unset, .unset, .unset, .unset] []) tz → oS p e below T30 (mkF m 244 #[iv p0, iv p1, iv p2, iv p3, iv 0, rv aE, iv own_o, iv (own_r p1 own_o), iv (own_r p2 own_o), rv b12, rv b19, .val (.double (FP.ddiv (FP.i2d (own_r p1 own_o)) (FP.i2d own_o))), .second, .val (.double (FP.ddiv (FP.i2d (own_r p2 own_o)) (FP.i2d own_o))), .second, .unset, .unset, .unset, .unset] []) tz := by
        intro tz kz
        by_cases hf244_51 : (own_r p1 own_o) = (own_r p2 own_o)
        · have S52 : ∀ tz, oS p e below T30 (mkF m 274 #[iv p0, iv p1, iv p2, iv p3, iv 0, rv aE, iv own_o, iv (own_r p1 own_o), iv (own_r p2 own_o), rv b12, rv b19, .val (.double (FP.ddiv (FP.i2d (own_r p1 own_o)) (FP.i2d own_o))), .second, .val (.double (FP.ddiv (FP.i2d (own_r p2 own_o)) (FP.i2d own_o))), .second, .unset, .unset, .unset, .unset] []) tz → oS p e below T30 (mkF m 244 #[iv p0, iv p1, iv p2, iv p3, iv 0, rv aE, iv own_o, iv (own_r p1 own_o), iv (own_r p2 own_o), rv b12, rv b19, .val (.double (FP.ddiv (FP.i2d (own_r p1 own_o)) (FP.i2d own_o))), .second, .val (.double (FP.ddiv (FP.i2d (own_r p2 own_o)) (FP.i2d own_o))), .second, .unset, .unset, .unset, .unset] []) tz := fun tz kz => id (by
            show oS p e below T30 (mkF m 244 #[iv p0, iv p1, iv p2, iv p3, iv 0, rv aE, iv own_o, iv (own_r p1 own_o), iv (own_r p2 own_o), rv b12, rv b19, .val (.double (FP.ddiv (FP.i2d (own_r p1 own_o)) (FP.i2d own_o))), .second, .val (.double (FP.ddiv (FP.i2d (own_r p2 own_o)) (FP.i2d own_o))), .second, .unset, .unset, .unset, .unset] []) _
            refine XS.iload X30.here hx rfl (hb hby at_244) rfl ?_
            refine XS.iload X30.here hx rfl (hb hby at_246) rfl ?_
            refine XS.icmpNo X30.here hx rfl (hb hby at_248) rfl (XT.ii_ne_f hf244_51) ?_
            refine XT.iconstV X30.here hx rfl (1 : Int32) (hb hby at_251) (by decide) ?_
            refine XS.goto X30.here hx rfl (pc0 := 252) (pc' := 256) rfl (hb hby at_252) (by decide) (by decide) ?_
            refine XS.dload X30.here hx rfl (hb hby at_256) rfl ?_
            refine XS.dload X30.here hx rfl (hb hby at_258) rfl ?_
            refine XS.dcmpS X30.here hx rfl (hb hby at_260) rfl rfl ?_
            refine XS.ifNo X30.here hx rfl (hb hby at_261) rfl (XT.i0_ne_f ((own_te (own_rv p1 own_opos) (own_rv p2 own_opos) own_opos).mpr hf244_51)) ?_
            refine XT.iconstV X30.here hx rfl (1 : Int32) (hb hby at_264) (by decide) ?_
            show oS p e below T30 (mkF m 265 #[iv p0, iv p1, iv p2, iv p3, iv 0, rv aE, iv own_o, iv (own_r p1 own_o), iv (own_r p2 own_o), rv b12, rv b19, .val (.double (FP.ddiv (FP.i2d (own_r p1 own_o)) (FP.i2d own_o))), .second, .val (.double (FP.ddiv (FP.i2d (own_r p2 own_o)) (FP.i2d own_o))), .second, .unset, .unset, .unset, .unset] [(.int 1), (.int 1)]) _
            refine XS.goto X30.here hx rfl (pc0 := 265) (pc' := 269) rfl (hb hby at_265) (by decide) (by decide) ?_
            refine XS.icmpYes X30.here hx rfl (pc0 := 269) (pc' := 274) rfl (hb hby at_269) rfl (XT.ii_eq_t (by decide)) (by decide) (by decide) ?_
            exact kz)
          exact S52 tz kz
        · have S53 : ∀ tz, oS p e below T30 (mkF m 274 #[iv p0, iv p1, iv p2, iv p3, iv 0, rv aE, iv own_o, iv (own_r p1 own_o), iv (own_r p2 own_o), rv b12, rv b19, .val (.double (FP.ddiv (FP.i2d (own_r p1 own_o)) (FP.i2d own_o))), .second, .val (.double (FP.ddiv (FP.i2d (own_r p2 own_o)) (FP.i2d own_o))), .second, .unset, .unset, .unset, .unset] []) tz → oS p e below T30 (mkF m 244 #[iv p0, iv p1, iv p2, iv p3, iv 0, rv aE, iv own_o, iv (own_r p1 own_o), iv (own_r p2 own_o), rv b12, rv b19, .val (.double (FP.ddiv (FP.i2d (own_r p1 own_o)) (FP.i2d own_o))), .second, .val (.double (FP.ddiv (FP.i2d (own_r p2 own_o)) (FP.i2d own_o))), .second, .unset, .unset, .unset, .unset] []) tz := fun tz kz => id (by
            show oS p e below T30 (mkF m 244 #[iv p0, iv p1, iv p2, iv p3, iv 0, rv aE, iv own_o, iv (own_r p1 own_o), iv (own_r p2 own_o), rv b12, rv b19, .val (.double (FP.ddiv (FP.i2d (own_r p1 own_o)) (FP.i2d own_o))), .second, .val (.double (FP.ddiv (FP.i2d (own_r p2 own_o)) (FP.i2d own_o))), .second, .unset, .unset, .unset, .unset] []) _
            refine XS.iload X30.here hx rfl (hb hby at_244) rfl ?_
            refine XS.iload X30.here hx rfl (hb hby at_246) rfl ?_
            refine XS.icmpYes X30.here hx rfl (pc0 := 248) (pc' := 255) rfl (hb hby at_248) rfl (XT.ii_ne_t hf244_51) (by decide) (by decide) ?_
            refine XT.iconstV X30.here hx rfl (0 : Int32) (hb hby at_255) (by decide) ?_
            refine XS.dload X30.here hx rfl (hb hby at_256) rfl ?_
            refine XS.dload X30.here hx rfl (hb hby at_258) rfl ?_
            refine XS.dcmpS X30.here hx rfl (hb hby at_260) rfl rfl ?_
            refine XS.ifYes X30.here hx rfl (pc0 := 261) (pc' := 268) rfl (hb hby at_261) rfl (XT.i0_ne_t (fun q => hf244_51 ((own_te (own_rv p1 own_opos) (own_rv p2 own_opos) own_opos).mp q))) (by decide) (by decide) ?_
            refine XT.iconstV X30.here hx rfl (0 : Int32) (hb hby at_268) (by decide) ?_
            refine XS.icmpYes X30.here hx rfl (pc0 := 269) (pc' := 274) rfl (hb hby at_269) rfl (XT.ii_eq_t (by decide)) (by decide) (by decide) ?_
            show oS p e below T30 (mkF m 274 #[iv p0, iv p1, iv p2, iv p3, iv 0, rv aE, iv own_o, iv (own_r p1 own_o), iv (own_r p2 own_o), rv b12, rv b19, .val (.double (FP.ddiv (FP.i2d (own_r p1 own_o)) (FP.i2d own_o))), .second, .val (.double (FP.ddiv (FP.i2d (own_r p2 own_o)) (FP.i2d own_o))), .second, .unset, .unset, .unset, .unset] []) _
            exact kz)
          exact S53 tz kz
      obtain ⟨_, T54, Lc54, X54, hQ54, st54⟩ := own_callS (W := 0) (y := mN7) X30 hx hZ hown (hw _ (own_w 0 rfl)) (hw _ (own_w 1 rfl)) (hw _ (own_w 2 rfl)) (hw _ (own_w 3 rfl)) (by decide) (rmMk l Z av0 hw [] ((2 : Int32) * own_o) ((2 : Int32) * (own_r p1 own_o)) T19.heap n0 Zk19 ) (by decide) (by decide) (g := (mkF m 289 #[iv p0, iv p1, iv p2, iv p3, iv 0, rv aE, iv own_o, iv (own_r p1 own_o), iv (own_r p2 own_o), rv b12, rv b19, .val (.double (FP.ddiv (FP.i2d (own_r p1 own_o)) (FP.i2d own_o))), .second, .val (.double (FP.ddiv (FP.i2d (own_r p2 own_o)) (FP.i2d own_o))), .second, .unset, .unset, .unset, .unset] [(.int ((2 : Int32) * (own_r p1 own_o))), (.int ((2 : Int32) * own_o))])) rfl (by rw [hml]; rfl) (argsL := [(.int ((2 : Int32) * own_o)), (.int ((2 : Int32) * (own_r p1 own_o)))]) (rest := []) (lenOf pd__II_Lcom_example_graftwork_graftwork_simulate_Summary_ rfl) rfl (hb hby at_289) rfl e30 (by decide : 5 + 1 ≤ _) (by decide : 28 + 8 ≤ _)
      obtain ⟨b54, rfl, N54q, gb54, K54, E54, Fa54, Fc54⟩ := hQ54
      have N54 := Fr.app N30 N54q
      have e54 : T54.heap = T54.heap := rfl
      have f55 := (f20.keep K19)
      have ne_aE_b54 : aE ≠ b54 := Nat.ne_of_lt (Nat.lt_of_lt_of_le f55.lt gb54)
      have f56 := (f21.keep K19)
      have ne_b11_b54 : b11 ≠ b54 := Nat.ne_of_lt (Nat.lt_of_lt_of_le f56.lt gb54)
      have ne_b12_b54 : b12 ≠ b54 := Nat.ne_of_lt (Nat.lt_of_lt_of_le f26.lt gb54)
      have f57 := (E15.keep K19)
      have ne_b15_b54 : b15 ≠ b54 := Nat.ne_of_lt (Nat.lt_of_lt_of_le f57.lt gb54)
      have ne_b19_b54 : b19 ≠ b54 := Nat.ne_of_lt (Nat.lt_of_lt_of_le E19.lt gb54)
      have f58 := (f23.keep K19)
      have ne_b3_b54 : b3 ≠ b54 := Nat.ne_of_lt (Nat.lt_of_lt_of_le f58.lt gb54)
      have ge_b54 : n0 ≤ b54 := Nat.le_trans Zk19 gb54
      have sz_b54 : h0.size ≤ b54 := Nat.le_trans Kk19.1 gb54
      have Zk54 : n0 ≤ T54.heap.size := Nat.le_trans Zk19 K54.1
      have Kk54 : Keep h0 T54.heap [] := Kk19.trans K54 all0
      obtain ⟨_, T59, Lc59, X59, hQ59, st59⟩ := own_virtual (W := 0) (y := mN8) (z := mN8) X54 hx hZ hown (hw _ (own_w 34 rfl)) (hw _ (own_w 35 rfl)) (notFace_of_selects (args := #[]) (mvT hZ (hw _ (own_w 37 rfl)))) (hw _ (own_w 37 rfl)) (hw _ (own_w 36 rfl)) (hw _ (own_w 38 rfl)) (hw _ (own_w 6 rfl)) (by decide) (rmRatP l Z av0 hw [] b54 ((2 : Int32) * own_o) ((2 : Int32) * (own_r p1 own_o)) T54.heap n0 Zk54 Fa54 Fc54 (own_2nz own_opos own_ole)) (by decide) (by decide) E54 (g := (mkF m 292 #[iv p0, iv p1, iv p2, iv p3, iv 0, rv aE, iv own_o, iv (own_r p1 own_o), iv (own_r p2 own_o), rv b12, rv b19, .val (.double (FP.ddiv (FP.i2d (own_r p1 own_o)) (FP.i2d own_o))), .second, .val (.double (FP.ddiv (FP.i2d (own_r p2 own_o)) (FP.i2d own_o))), .second, .unset, .unset, .unset, .unset] [(.ref b54)])) rfl (by rw [hml]; rfl) (argsL := []) (rest := []) (lenOf pd__Ljava_util_OptionalDouble_ rfl) rfl (hb hby at_292) rfl e54 (by decide : 6 + 1 ≤ _) (by decide : 36 + 2 ≤ _)
      obtain ⟨b59, rfl, N59q, gb59, K59, E59, I59, V59⟩ := hQ59
      have N59 := Fr.app N54 N59q
      have e59 : T59.heap = T59.heap := rfl
      have f60 := (f55.keep K54)
      have ne_aE_b59 : aE ≠ b59 := Nat.ne_of_lt (Nat.lt_of_lt_of_le f60.lt gb59)
      have f61 := (f56.keep K54)
      have ne_b11_b59 : b11 ≠ b59 := Nat.ne_of_lt (Nat.lt_of_lt_of_le f61.lt gb59)
      have f62 := (f26.keep K54)
      have ne_b12_b59 : b12 ≠ b59 := Nat.ne_of_lt (Nat.lt_of_lt_of_le f62.lt gb59)
      have f63 := (f57.keep K54)
      have ne_b15_b59 : b15 ≠ b59 := Nat.ne_of_lt (Nat.lt_of_lt_of_le f63.lt gb59)
      have f64 := (E19.keep K54)
      have ne_b19_b59 : b19 ≠ b59 := Nat.ne_of_lt (Nat.lt_of_lt_of_le f64.lt gb59)
      have f65 := (f58.keep K54)
      have ne_b3_b59 : b3 ≠ b59 := Nat.ne_of_lt (Nat.lt_of_lt_of_le f65.lt gb59)
      have ne_b54_b59 : b54 ≠ b59 := Nat.ne_of_lt (Nat.lt_of_lt_of_le E54.lt gb59)
      have ge_b59 : n0 ≤ b59 := Nat.le_trans Zk54 gb59
      have sz_b59 : h0.size ≤ b59 := Nat.le_trans Kk54.1 gb59
      have Zk59 : n0 ≤ T59.heap.size := Nat.le_trans Zk54 K59.1
      have Kk59 : Keep h0 T59.heap [] := Kk54.trans K59 all0
      obtain ⟨_, T66, Lc66, X66, hQ66, st66⟩ := own_virtual (W := 0) (y := mN3) (z := mN3) X59 hx hZ hown (hw _ (own_w 44 rfl)) (hw _ (own_w 45 rfl)) (notFace_of_selects (args := #[]) (mvT hZ (hw _ (own_w 47 rfl)))) (hw _ (own_w 47 rfl)) (hw _ (own_w 46 rfl)) (hw _ (own_w 48 rfl)) (hw _ (own_w 41 rfl)) (by decide) (rmIs1 l Z av0 hw [] b59 T59.heap n0 Zk59 I59) (by decide) (by decide) E59 (g := (mkF m 299 #[iv p0, iv p1, iv p2, iv p3, iv 0, rv aE, iv own_o, iv (own_r p1 own_o), iv (own_r p2 own_o), rv b12, rv b19, .val (.double (FP.ddiv (FP.i2d (own_r p1 own_o)) (FP.i2d own_o))), .second, .val (.double (FP.ddiv (FP.i2d (own_r p2 own_o)) (FP.i2d own_o))), .second, rv b59, .unset, .unset, .unset] [(.ref b59)])) rfl (by rw [hml]; rfl) (argsL := []) (rest := []) (lenOf pd__Z rfl) rfl (hb hby at_299) rfl e59 (by decide : 7 + 0 ≤ _) (by decide : 38 + 0 ≤ _)
      obtain ⟨rfl, N66q, hh66⟩ := hQ66
      have N66 := Fr.app N59 N66q
      have e66 : T66.heap = T59.heap := hh66
      obtain ⟨_, T67, Lc67, X67, hQ67, st67⟩ := own_virtual (W := 0) (y := mN4) (z := mN4) X66 hx hZ hown (hw _ (own_w 64 rfl)) (hw _ (own_w 65 rfl)) (notFace_of_selects (args := #[]) (mvT hZ (hw _ (own_w 67 rfl)))) (hw _ (own_w 67 rfl)) (hw _ (own_w 66 rfl)) (hw _ (own_w 68 rfl)) (hw _ (own_w 41 rfl)) (by decide) (rmGet l Z av0 hw [] b59 (FP.ddiv (FP.i2d ((2 : Int32) * (own_r p1 own_o))) (FP.i2d ((2 : Int32) * own_o))) T59.heap n0 Zk59 I59 V59) (by decide) (by decide) E59 (g := (mkF m 307 #[iv p0, iv p1, iv p2, iv p3, iv 0, rv aE, iv own_o, iv (own_r p1 own_o), iv (own_r p2 own_o), rv b12, rv b19, .val (.double (FP.ddiv (FP.i2d (own_r p1 own_o)) (FP.i2d own_o))), .second, .val (.double (FP.ddiv (FP.i2d (own_r p2 own_o)) (FP.i2d own_o))), .second, rv b59, .unset, .unset, .unset] [(.ref b59)])) rfl (by rw [hml]; rfl) (argsL := []) (rest := []) (lenOf pd__D rfl) rfl (hb hby at_307) rfl e66 (by decide : 7 + 0 ≤ _) (by decide : 38 + 0 ≤ _)
      obtain ⟨rfl, N67q, hh67⟩ := hQ67
      have N67 := Fr.app N66 N67q
      have e67 : T67.heap = T59.heap := hh67
      obtain ⟨_, T68, Lc68, X68, hQ68, st68⟩ := own_callS (W := 0) (y := mN7) X67 hx hZ hown (hw _ (own_w 0 rfl)) (hw _ (own_w 1 rfl)) (hw _ (own_w 2 rfl)) (hw _ (own_w 3 rfl)) (by decide) (rmMk l Z av0 hw [] (own_pp p3) (own_r p2 (own_pp p3)) T59.heap n0 Zk59 ) (by decide) (by decide) (g := (mkF m 350 #[iv p0, iv p1, iv p2, iv p3, iv 0, rv aE, iv own_o, iv (own_r p1 own_o), iv (own_r p2 own_o), rv b12, rv b19, .val (.double (FP.ddiv (FP.i2d (own_r p1 own_o)) (FP.i2d own_o))), .second, .val (.double (FP.ddiv (FP.i2d (own_r p2 own_o)) (FP.i2d own_o))), .second, iv (own_kk p3), iv (own_pp p3), iv ((own_r p2 (own_pp p3))), .unset] [(.int (own_r p2 (own_pp p3))), (.int (own_pp p3))])) rfl (by rw [hml]; rfl) (argsL := [(.int (own_pp p3)), (.int (own_r p2 (own_pp p3)))]) (rest := []) (lenOf pd__II_Lcom_example_graftwork_graftwork_simulate_Summary_ rfl) rfl (hb hby at_350) rfl e67 (by decide : 7 + 1 ≤ _) (by decide : 38 + 8 ≤ _)
      obtain ⟨b68, rfl, N68q, gb68, K68, E68, Fa68, Fc68⟩ := hQ68
      have N68 := Fr.app N67 N68q
      have e68 : T68.heap = T68.heap := rfl
      have f69 := (f60.keep K59)
      have ne_aE_b68 : aE ≠ b68 := Nat.ne_of_lt (Nat.lt_of_lt_of_le f69.lt gb68)
      have f70 := (f61.keep K59)
      have ne_b11_b68 : b11 ≠ b68 := Nat.ne_of_lt (Nat.lt_of_lt_of_le f70.lt gb68)
      have f71 := (f62.keep K59)
      have ne_b12_b68 : b12 ≠ b68 := Nat.ne_of_lt (Nat.lt_of_lt_of_le f71.lt gb68)
      have f72 := (f63.keep K59)
      have ne_b15_b68 : b15 ≠ b68 := Nat.ne_of_lt (Nat.lt_of_lt_of_le f72.lt gb68)
      have f73 := (f64.keep K59)
      have ne_b19_b68 : b19 ≠ b68 := Nat.ne_of_lt (Nat.lt_of_lt_of_le f73.lt gb68)
      have f74 := (f65.keep K59)
      have ne_b3_b68 : b3 ≠ b68 := Nat.ne_of_lt (Nat.lt_of_lt_of_le f74.lt gb68)
      have f75 := (E54.keep K59)
      have ne_b54_b68 : b54 ≠ b68 := Nat.ne_of_lt (Nat.lt_of_lt_of_le f75.lt gb68)
      have ne_b59_b68 : b59 ≠ b68 := Nat.ne_of_lt (Nat.lt_of_lt_of_le E59.lt gb68)
      have ge_b68 : n0 ≤ b68 := Nat.le_trans Zk59 gb68
      have sz_b68 : h0.size ≤ b68 := Nat.le_trans Kk59.1 gb68
      have Zk68 : n0 ≤ T68.heap.size := Nat.le_trans Zk59 K68.1
      have Kk68 : Keep h0 T68.heap [] := Kk59.trans K68 all0
      obtain ⟨_, T76, Lc76, X76, hQ76, st76⟩ := own_virtual (W := 0) (y := mN8) (z := mN8) X68 hx hZ hown (hw _ (own_w 34 rfl)) (hw _ (own_w 35 rfl)) (notFace_of_selects (args := #[]) (mvT hZ (hw _ (own_w 37 rfl)))) (hw _ (own_w 37 rfl)) (hw _ (own_w 36 rfl)) (hw _ (own_w 38 rfl)) (hw _ (own_w 6 rfl)) (by decide) (rmRatP l Z av0 hw [] b68 (own_pp p3) (own_r p2 (own_pp p3)) T68.heap n0 Zk68 Fa68 Fc68 (own_pnz (own_ppos p3))) (by decide) (by decide) E68 (g := (mkF m 353 #[iv p0, iv p1, iv p2, iv p3, iv 0, rv aE, iv own_o, iv (own_r p1 own_o), iv (own_r p2 own_o), rv b12, rv b19, .val (.double (FP.ddiv (FP.i2d (own_r p1 own_o)) (FP.i2d own_o))), .second, .val (.double (FP.ddiv (FP.i2d (own_r p2 own_o)) (FP.i2d own_o))), .second, iv (own_kk p3), iv (own_pp p3), iv ((own_r p2 (own_pp p3))), .unset] [(.ref b68)])) rfl (by rw [hml]; rfl) (argsL := []) (rest := []) (lenOf pd__Ljava_util_OptionalDouble_ rfl) rfl (hb hby at_353) rfl e68 (by decide : 8 + 1 ≤ _) (by decide : 46 + 2 ≤ _)
      obtain ⟨b76, rfl, N76q, gb76, K76, E76, I76, V76⟩ := hQ76
      have N76 := Fr.app N68 N76q
      have e76 : T76.heap = T76.heap := rfl
      have f77 := (f69.keep K68)
      have ne_aE_b76 : aE ≠ b76 := Nat.ne_of_lt (Nat.lt_of_lt_of_le f77.lt gb76)
      have f78 := (f70.keep K68)
      have ne_b11_b76 : b11 ≠ b76 := Nat.ne_of_lt (Nat.lt_of_lt_of_le f78.lt gb76)
      have f79 := (f71.keep K68)
      have ne_b12_b76 : b12 ≠ b76 := Nat.ne_of_lt (Nat.lt_of_lt_of_le f79.lt gb76)
      have f80 := (f72.keep K68)
      have ne_b15_b76 : b15 ≠ b76 := Nat.ne_of_lt (Nat.lt_of_lt_of_le f80.lt gb76)
      have f81 := (f73.keep K68)
      have ne_b19_b76 : b19 ≠ b76 := Nat.ne_of_lt (Nat.lt_of_lt_of_le f81.lt gb76)
      have f82 := (f74.keep K68)
      have ne_b3_b76 : b3 ≠ b76 := Nat.ne_of_lt (Nat.lt_of_lt_of_le f82.lt gb76)
      have f83 := (f75.keep K68)
      have ne_b54_b76 : b54 ≠ b76 := Nat.ne_of_lt (Nat.lt_of_lt_of_le f83.lt gb76)
      have f84 := (E59.keep K68)
      have ne_b59_b76 : b59 ≠ b76 := Nat.ne_of_lt (Nat.lt_of_lt_of_le f84.lt gb76)
      have ne_b68_b76 : b68 ≠ b76 := Nat.ne_of_lt (Nat.lt_of_lt_of_le E68.lt gb76)
      have ge_b76 : n0 ≤ b76 := Nat.le_trans Zk68 gb76
      have sz_b76 : h0.size ≤ b76 := Nat.le_trans Kk68.1 gb76
      have Zk76 : n0 ≤ T76.heap.size := Nat.le_trans Zk68 K76.1
      have Kk76 : Keep h0 T76.heap [] := Kk68.trans K76 all0
      obtain ⟨_, T85, Lc85, X85, hQ85, st85⟩ := own_virtual (W := 0) (y := mN3) (z := mN3) X76 hx hZ hown (hw _ (own_w 44 rfl)) (hw _ (own_w 45 rfl)) (notFace_of_selects (args := #[]) (mvT hZ (hw _ (own_w 47 rfl)))) (hw _ (own_w 47 rfl)) (hw _ (own_w 46 rfl)) (hw _ (own_w 48 rfl)) (hw _ (own_w 41 rfl)) (by decide) (rmIs1 l Z av0 hw [] b76 T76.heap n0 Zk76 I76) (by decide) (by decide) E76 (g := (mkF m 360 #[iv p0, iv p1, iv p2, iv p3, iv 0, rv aE, iv own_o, iv (own_r p1 own_o), iv (own_r p2 own_o), rv b12, rv b19, .val (.double (FP.ddiv (FP.i2d (own_r p1 own_o)) (FP.i2d own_o))), .second, .val (.double (FP.ddiv (FP.i2d (own_r p2 own_o)) (FP.i2d own_o))), .second, iv (own_kk p3), iv (own_pp p3), iv ((own_r p2 (own_pp p3))), rv b76] [(.ref b76)])) rfl (by rw [hml]; rfl) (argsL := []) (rest := []) (lenOf pd__Z rfl) rfl (hb hby at_360) rfl e76 (by decide : 9 + 0 ≤ _) (by decide : 48 + 0 ≤ _)
      obtain ⟨rfl, N85q, hh85⟩ := hQ85
      have N85 := Fr.app N76 N85q
      have e85 : T85.heap = T76.heap := hh85
      obtain ⟨_, T86, Lc86, X86, hQ86, st86⟩ := own_virtual (W := 0) (y := mN4) (z := mN4) X85 hx hZ hown (hw _ (own_w 64 rfl)) (hw _ (own_w 65 rfl)) (notFace_of_selects (args := #[]) (mvT hZ (hw _ (own_w 67 rfl)))) (hw _ (own_w 67 rfl)) (hw _ (own_w 66 rfl)) (hw _ (own_w 68 rfl)) (hw _ (own_w 41 rfl)) (by decide) (rmGet l Z av0 hw [] b76 (FP.ddiv (FP.i2d (own_r p2 (own_pp p3))) (FP.i2d (own_pp p3))) T76.heap n0 Zk76 I76 V76) (by decide) (by decide) E76 (g := (mkF m 370 #[iv p0, iv p1, iv p2, iv p3, iv 0, rv aE, iv own_o, iv (own_r p1 own_o), iv (own_r p2 own_o), rv b12, rv b19, .val (.double (FP.ddiv (FP.i2d (own_r p1 own_o)) (FP.i2d own_o))), .second, .val (.double (FP.ddiv (FP.i2d (own_r p2 own_o)) (FP.i2d own_o))), .second, iv (own_kk p3), iv (own_pp p3), iv ((own_r p2 (own_pp p3))), rv b76] [(.ref b76)])) rfl (by rw [hml]; rfl) (argsL := []) (rest := []) (lenOf pd__D rfl) rfl (hb hby at_370) rfl e85 (by decide : 9 + 0 ≤ _) (by decide : 48 + 0 ≤ _)
      obtain ⟨rfl, N86q, hh86⟩ := hQ86
      have N86 := Fr.app N85 N86q
      have e86 : T86.heap = T76.heap := hh86
      have S87 : ∀ tz, oS p e below T86 (mkF m 389 #[iv p0, iv p1, iv p2, iv p3, iv 0, rv aE, iv own_o, iv (own_r p1 own_o), iv (own_r p2 own_o), rv b12, rv b19, .val (.double (FP.ddiv (FP.i2d (own_r p1 own_o)) (FP.i2d own_o))), .second, .val (.double (FP.ddiv (FP.i2d (own_r p2 own_o)) (FP.i2d own_o))), .second, iv (own_kk p3), iv (own_pp p3), iv ((own_r p2 (own_pp p3))), rv b76] [(.int 1)]) tz → oS p e below s₁ (mkF m 0 #[iv p0, iv p1, iv p2, iv p3, .unset, .unset, .unset, .unset, .unset, .unset, .unset, .unset, .unset, .unset, .unset, .unset, .unset, .unset, .unset] []) tz := fun tz kz => S49 tz (by
        show oS p e below T30 (mkF m 244 #[iv p0, iv p1, iv p2, iv p3, iv 0, rv aE, iv own_o, iv (own_r p1 own_o), iv (own_r p2 own_o), rv b12, rv b19, .val (.double (FP.ddiv (FP.i2d (own_r p1 own_o)) (FP.i2d own_o))), .second, .val (.double (FP.ddiv (FP.i2d (own_r p2 own_o)) (FP.i2d own_o))), .second, .unset, .unset, .unset, .unset] []) _
        refine M50 _ ?_
        show oS p e below T30 (mkF m 274 #[iv p0, iv p1, iv p2, iv p3, iv 0, rv aE, iv own_o, iv (own_r p1 own_o), iv (own_r p2 own_o), rv b12, rv b19, .val (.double (FP.ddiv (FP.i2d (own_r p1 own_o)) (FP.i2d own_o))), .second, .val (.double (FP.ddiv (FP.i2d (own_r p2 own_o)) (FP.i2d own_o))), .second, .unset, .unset, .unset, .unset] []) _
        refine XS.iload X30.here hx rfl (hb hby at_274) rfl ?_
        refine X30.ldcI hx hown (mvT hZ (hw _ (own_w 69 rfl))) rfl (hb hby at_276) ?_
        refine XS.icmpNo X30.here hx rfl (hb hby at_278) rfl (XT.ii_gt_f own_ole) ?_
        refine XT.iconstV X30.here hx rfl (2 : Int32) (hb hby at_281) (by decide) ?_
        refine XS.iload X30.here hx rfl (hb hby at_282) rfl ?_
        refine XS.imul X30.here hx rfl (hb hby at_284) rfl ?_
        refine XT.iconstV X30.here hx rfl (2 : Int32) (hb hby at_285) (by decide) ?_
        refine XS.iload X30.here hx rfl (hb hby at_286) rfl ?_
        refine XS.imul X30.here hx rfl (hb hby at_288) rfl ?_
        show oS p e below T30 (mkF m 289 #[iv p0, iv p1, iv p2, iv p3, iv 0, rv aE, iv own_o, iv (own_r p1 own_o), iv (own_r p2 own_o), rv b12, rv b19, .val (.double (FP.ddiv (FP.i2d (own_r p1 own_o)) (FP.i2d own_o))), .second, .val (.double (FP.ddiv (FP.i2d (own_r p2 own_o)) (FP.i2d own_o))), .second, .unset, .unset, .unset, .unset] [(.int ((2 : Int32) * (own_r p1 own_o))), (.int ((2 : Int32) * own_o))]) _
        refine st54 _ ?_
        refine st59 _ ?_
        refine XS.astore X59.here hx rfl (hb hby at_295) rfl rfl (l' := #[iv p0, iv p1, iv p2, iv p3, iv 0, rv aE, iv own_o, iv (own_r p1 own_o), iv (own_r p2 own_o), rv b12, rv b19, .val (.double (FP.ddiv (FP.i2d (own_r p1 own_o)) (FP.i2d own_o))), .second, .val (.double (FP.ddiv (FP.i2d (own_r p2 own_o)) (FP.i2d own_o))), .second, rv b59, .unset, .unset, .unset]) rfl ?_
        refine XS.aload X59.here hx rfl (hb hby at_297) rfl rfl ?_
        refine st66 _ ?_
        refine XS.ifNo X66.here hx rfl (hb hby at_302) rfl (XT.i0_eq_f (by decide)) ?_
        refine XS.aload X66.here hx rfl (hb hby at_305) rfl rfl ?_
        refine st67 _ ?_
        refine XS.dload X67.here hx rfl (hb hby at_310) rfl ?_
        refine XS.dcmpS X67.here hx rfl (hb hby at_312) rfl rfl ?_
        show oS p e below T67 (mkF m 313 #[iv p0, iv p1, iv p2, iv p3, iv 0, rv aE, iv own_o, iv (own_r p1 own_o), iv (own_r p2 own_o), rv b12, rv b19, .val (.double (FP.ddiv (FP.i2d (own_r p1 own_o)) (FP.i2d own_o))), .second, .val (.double (FP.ddiv (FP.i2d (own_r p2 own_o)) (FP.i2d own_o))), .second, rv b59, .unset, .unset, .unset] [(.int (cmpValue (FP.dcmp (FP.ddiv (FP.i2d ((2 : Int32) * (own_r p1 own_o))) (FP.i2d ((2 : Int32) * own_o))) (FP.ddiv (FP.i2d (own_r p1 own_o)) (FP.i2d own_o))) .l))]) _
        refine XS.ifYes X67.here hx rfl (pc0 := 313) (pc' := 318) rfl (hb hby at_313) rfl (XT.i0_eq_t (own_t2 (own_rv p1 own_opos) own_opos own_ole)) (by decide) (by decide) ?_
        refine XS.iloadN X67.here hx rfl (hb hby at_318) rfl ?_
        refine XT.iconstV X67.here hx rfl (1 : Int32) (hb hby at_319) (by decide) ?_
        refine XT.iushr X67.here hx rfl (hb hby at_320) rfl ?_
        refine XT.bipushV X67.here hx rfl (31 : Int32) (hb hby at_321) (by decide) ?_
        refine XS.irem X67.here hx rfl (hb hby at_323) rfl (by decide) ?_
        show oS p e below T67 (mkF m 324 #[iv p0, iv p1, iv p2, iv p3, iv 0, rv aE, iv own_o, iv (own_r p1 own_o), iv (own_r p2 own_o), rv b12, rv b19, .val (.double (FP.ddiv (FP.i2d (own_r p1 own_o)) (FP.i2d own_o))), .second, .val (.double (FP.ddiv (FP.i2d (own_r p2 own_o)) (FP.i2d own_o))), .second, rv b59, .unset, .unset, .unset] [(.int ((XT.ushr p3 (1 : Int32)) - ((XT.ushr p3 (1 : Int32)) / (31 : Int32)) * (31 : Int32)))]) _
        skip
        show oS p e below T67 (mkF m 324 #[iv p0, iv p1, iv p2, iv p3, iv 0, rv aE, iv own_o, iv (own_r p1 own_o), iv (own_r p2 own_o), rv b12, rv b19, .val (.double (FP.ddiv (FP.i2d (own_r p1 own_o)) (FP.i2d own_o))), .second, .val (.double (FP.ddiv (FP.i2d (own_r p2 own_o)) (FP.i2d own_o))), .second, rv b59, .unset, .unset, .unset] [(.int (own_kk p3))]) _
        refine XS.istore X67.here hx rfl (hb hby at_324) rfl (l' := #[iv p0, iv p1, iv p2, iv p3, iv 0, rv aE, iv own_o, iv (own_r p1 own_o), iv (own_r p2 own_o), rv b12, rv b19, .val (.double (FP.ddiv (FP.i2d (own_r p1 own_o)) (FP.i2d own_o))), .second, .val (.double (FP.ddiv (FP.i2d (own_r p2 own_o)) (FP.i2d own_o))), .second, iv (own_kk p3), .unset, .unset, .unset]) rfl ?_
        refine XT.iconstV X67.here hx rfl (1 : Int32) (hb hby at_326) (by decide) ?_
        refine XS.iload X67.here hx rfl (hb hby at_327) rfl ?_
        show oS p e below T67 (mkF m 329 #[iv p0, iv p1, iv p2, iv p3, iv 0, rv aE, iv own_o, iv (own_r p1 own_o), iv (own_r p2 own_o), rv b12, rv b19, .val (.double (FP.ddiv (FP.i2d (own_r p1 own_o)) (FP.i2d own_o))), .second, .val (.double (FP.ddiv (FP.i2d (own_r p2 own_o)) (FP.i2d own_o))), .second, iv (own_kk p3), .unset, .unset, .unset] [(.int (own_kk p3)), (.int 1)]) _
        refine XT.ishl X67.here hx rfl (hb hby at_329) rfl ?_
        show oS p e below T67 (mkF m 330 #[iv p0, iv p1, iv p2, iv p3, iv 0, rv aE, iv own_o, iv (own_r p1 own_o), iv (own_r p2 own_o), rv b12, rv b19, .val (.double (FP.ddiv (FP.i2d (own_r p1 own_o)) (FP.i2d own_o))), .second, .val (.double (FP.ddiv (FP.i2d (own_r p2 own_o)) (FP.i2d own_o))), .second, iv (own_kk p3), .unset, .unset, .unset] [(.int ((1 : Int32) <<< ((own_kk p3) &&& 31)))]) _
        skip
        show oS p e below T67 (mkF m 330 #[iv p0, iv p1, iv p2, iv p3, iv 0, rv aE, iv own_o, iv (own_r p1 own_o), iv (own_r p2 own_o), rv b12, rv b19, .val (.double (FP.ddiv (FP.i2d (own_r p1 own_o)) (FP.i2d own_o))), .second, .val (.double (FP.ddiv (FP.i2d (own_r p2 own_o)) (FP.i2d own_o))), .second, iv (own_kk p3), .unset, .unset, .unset] [(.int (own_pp p3))]) _
        refine XS.istore X67.here hx rfl (hb hby at_330) rfl (l' := #[iv p0, iv p1, iv p2, iv p3, iv 0, rv aE, iv own_o, iv (own_r p1 own_o), iv (own_r p2 own_o), rv b12, rv b19, .val (.double (FP.ddiv (FP.i2d (own_r p1 own_o)) (FP.i2d own_o))), .second, .val (.double (FP.ddiv (FP.i2d (own_r p2 own_o)) (FP.i2d own_o))), .second, iv (own_kk p3), iv (own_pp p3), .unset, .unset]) rfl ?_
        refine XS.iloadN X67.here hx rfl (hb hby at_332) rfl ?_
        refine X67.ldcI hx hown (mvT hZ (hw _ (own_w 51 rfl))) rfl (hb hby at_333) ?_
        refine XS.iand X67.here hx rfl (hb hby at_335) rfl ?_
        show oS p e below T67 (mkF m 336 #[iv p0, iv p1, iv p2, iv p3, iv 0, rv aE, iv own_o, iv (own_r p1 own_o), iv (own_r p2 own_o), rv b12, rv b19, .val (.double (FP.ddiv (FP.i2d (own_r p1 own_o)) (FP.i2d own_o))), .second, .val (.double (FP.ddiv (FP.i2d (own_r p2 own_o)) (FP.i2d own_o))), .second, iv (own_kk p3), iv (own_pp p3), .unset, .unset] [(.int (p2 &&& (2147483647 : Int32)))]) _
        skip
        show oS p e below T67 (mkF m 336 #[iv p0, iv p1, iv p2, iv p3, iv 0, rv aE, iv own_o, iv (own_r p1 own_o), iv (own_r p2 own_o), rv b12, rv b19, .val (.double (FP.ddiv (FP.i2d (own_r p1 own_o)) (FP.i2d own_o))), .second, .val (.double (FP.ddiv (FP.i2d (own_r p2 own_o)) (FP.i2d own_o))), .second, iv (own_kk p3), iv (own_pp p3), .unset, .unset] [(.int (own_m p2))]) _
        refine XT.i2l X67.here hx rfl (hb hby at_336) rfl ?_
        refine XS.iload X67.here hx rfl (hb hby at_337) rfl ?_
        refine XT.i2l X67.here hx rfl (hb hby at_339) rfl ?_
        show oS p e below T67 (mkF m 340 #[iv p0, iv p1, iv p2, iv p3, iv 0, rv aE, iv own_o, iv (own_r p1 own_o), iv (own_r p2 own_o), rv b12, rv b19, .val (.double (FP.ddiv (FP.i2d (own_r p1 own_o)) (FP.i2d own_o))), .second, .val (.double (FP.ddiv (FP.i2d (own_r p2 own_o)) (FP.i2d own_o))), .second, iv (own_kk p3), iv (own_pp p3), .unset, .unset] [(.long ((own_pp p3)).toInt64), (.long ((own_m p2)).toInt64)]) _
        refine XT.lconstV X67.here hx rfl (1 : Int64) (hb hby at_340) (by decide) ?_
        refine XT.ladd X67.here hx rfl (hb hby at_341) rfl ?_
        refine XT.lrem X67.here hx rfl (hb hby at_342) rfl (own_lnz (own_ppos p3)) ?_
        refine XT.l2i X67.here hx rfl (hb hby at_343) rfl ?_
        show oS p e below T67 (mkF m 344 #[iv p0, iv p1, iv p2, iv p3, iv 0, rv aE, iv own_o, iv (own_r p1 own_o), iv (own_r p2 own_o), rv b12, rv b19, .val (.double (FP.ddiv (FP.i2d (own_r p1 own_o)) (FP.i2d own_o))), .second, .val (.double (FP.ddiv (FP.i2d (own_r p2 own_o)) (FP.i2d own_o))), .second, iv (own_kk p3), iv (own_pp p3), .unset, .unset] [(.int ((((own_m p2)).toInt64 - (((own_m p2)).toInt64 / (((own_pp p3)).toInt64 + (1 : Int64))) * (((own_pp p3)).toInt64 + (1 : Int64)))).toInt32)]) _
        skip
        show oS p e below T67 (mkF m 344 #[iv p0, iv p1, iv p2, iv p3, iv 0, rv aE, iv own_o, iv (own_r p1 own_o), iv (own_r p2 own_o), rv b12, rv b19, .val (.double (FP.ddiv (FP.i2d (own_r p1 own_o)) (FP.i2d own_o))), .second, .val (.double (FP.ddiv (FP.i2d (own_r p2 own_o)) (FP.i2d own_o))), .second, iv (own_kk p3), iv (own_pp p3), .unset, .unset] [(.int (own_r p2 (own_pp p3)))]) _
        refine XS.istore X67.here hx rfl (hb hby at_344) rfl (l' := #[iv p0, iv p1, iv p2, iv p3, iv 0, rv aE, iv own_o, iv (own_r p1 own_o), iv (own_r p2 own_o), rv b12, rv b19, .val (.double (FP.ddiv (FP.i2d (own_r p1 own_o)) (FP.i2d own_o))), .second, .val (.double (FP.ddiv (FP.i2d (own_r p2 own_o)) (FP.i2d own_o))), .second, iv (own_kk p3), iv (own_pp p3), iv ((own_r p2 (own_pp p3))), .unset]) rfl ?_
        refine XS.iload X67.here hx rfl (hb hby at_346) rfl ?_
        refine XS.iload X67.here hx rfl (hb hby at_348) rfl ?_
        refine st68 _ ?_
        refine st76 _ ?_
        show oS p e below T76 (mkF m 356 #[iv p0, iv p1, iv p2, iv p3, iv 0, rv aE, iv own_o, iv (own_r p1 own_o), iv (own_r p2 own_o), rv b12, rv b19, .val (.double (FP.ddiv (FP.i2d (own_r p1 own_o)) (FP.i2d own_o))), .second, .val (.double (FP.ddiv (FP.i2d (own_r p2 own_o)) (FP.i2d own_o))), .second, iv (own_kk p3), iv (own_pp p3), iv ((own_r p2 (own_pp p3))), .unset] [(.ref b76)]) _
        refine XS.astore X76.here hx rfl (hb hby at_356) rfl rfl (l' := #[iv p0, iv p1, iv p2, iv p3, iv 0, rv aE, iv own_o, iv (own_r p1 own_o), iv (own_r p2 own_o), rv b12, rv b19, .val (.double (FP.ddiv (FP.i2d (own_r p1 own_o)) (FP.i2d own_o))), .second, .val (.double (FP.ddiv (FP.i2d (own_r p2 own_o)) (FP.i2d own_o))), .second, iv (own_kk p3), iv (own_pp p3), iv ((own_r p2 (own_pp p3))), rv b76]) rfl ?_
        refine XS.aload X76.here hx rfl (hb hby at_358) rfl rfl ?_
        refine st85 _ ?_
        refine XS.ifYes X85.here hx rfl (pc0 := 363) (pc' := 368) rfl (hb hby at_363) rfl (XT.i0_ne_t (by decide)) (by decide) (by decide) ?_
        refine XS.aload X85.here hx rfl (hb hby at_368) rfl rfl ?_
        refine st86 _ ?_
        refine XS.iload X86.here hx rfl (hb hby at_373) rfl ?_
        refine XS.i2dS X86.here hx rfl (hb hby at_375) rfl rfl ?_
        refine XS.dmulS X86.here hx rfl (hb hby at_376) rfl (Jvm.Free.Fl.val64_no.mpr (Own.own_nnI (own_bk p2 p3))) rfl ?_
        refine XS.iload X86.here hx rfl (hb hby at_377) rfl ?_
        show oS p e below T86 (mkF m 379 #[iv p0, iv p1, iv p2, iv p3, iv 0, rv aE, iv own_o, iv (own_r p1 own_o), iv (own_r p2 own_o), rv b12, rv b19, .val (.double (FP.ddiv (FP.i2d (own_r p1 own_o)) (FP.i2d own_o))), .second, .val (.double (FP.ddiv (FP.i2d (own_r p2 own_o)) (FP.i2d own_o))), .second, iv (own_kk p3), iv (own_pp p3), iv ((own_r p2 (own_pp p3))), rv b76] [(.int (own_r p2 (own_pp p3))), (.double (FP.dmul (FP.ddiv (FP.i2d (own_r p2 (own_pp p3))) (FP.i2d (own_pp p3))) (FP.i2d (own_pp p3))))]) _
        refine XS.i2dS X86.here hx rfl (hb hby at_379) rfl rfl ?_
        refine XS.dcmpS X86.here hx rfl (hb hby at_380) rfl rfl ?_
        refine XS.ifNo X86.here hx rfl (hb hby at_381) rfl (XT.i0_ne_f (own_e0 (Own.own_cmpI (own_bk p2 p3) (Jvm.FP.Core.i2d_int _)))) ?_
        refine XT.iconstV X86.here hx rfl (1 : Int32) (hb hby at_384) (by decide) ?_
        refine XS.goto X86.here hx rfl (pc0 := 385) (pc' := 389) rfl (hb hby at_385) (by decide) (by decide) ?_
        exact kz)
      obtain ⟨fs, hr, hrun, hended, hW, hsame⟩ := X86.leave (v := some (.int 1)) (fun h => by rw [Bd.returns] at h; cases h)
      refine ⟨_, _, pre0 _ (S87 _ ?_), hrun, hended, _, _, rfl, ?_, ⟨_, rfl⟩, hW, hsame.mono (by decide) (by decide)⟩
      · exact retN X86 hx (t := .boolean) Bd.returns (by simp) (hb hby at_389) hr
      · show Qrm0 Z p0 p1 p2 p3 aE h0 n0 _ T86.heap _
        rw [e86]
        exact ⟨rfl, N86⟩
    · obtain ⟨_, T88, Lc88, X88, hQ88, st88⟩ := own_callS (W := 0) (y := mN7) X7 hx hZ hown (hw _ (own_w 0 rfl)) (hw _ (own_w 1 rfl)) (hw _ (own_w 2 rfl)) (hw _ (own_w 3 rfl)) (by decide) (rmMk l Z av0 hw [] (own_m p0) (own_r p1 (own_m p0)) T3.heap n0 Zk3 ) (by decide) (by decide) (g := (mkF m 90 #[iv p0, iv p1, iv p2, iv p3, iv 0, rv aE, iv (own_m p0), iv ((own_r p1 (own_m p0))), iv ((own_r p2 (own_m p0))), .unset, .unset, .unset, .unset, .unset, .unset, .unset, .unset, .unset, .unset] [(.int (own_r p1 (own_m p0))), (.int (own_m p0))])) rfl (by rw [hml]; rfl) (argsL := [(.int (own_m p0)), (.int (own_r p1 (own_m p0)))]) (rest := []) (lenOf pd__II_Lcom_example_graftwork_graftwork_simulate_Summary_ rfl) rfl (hb hby at_90) rfl e7 (by decide : 1 + 1 ≤ _) (by decide : 8 + 8 ≤ _)
      obtain ⟨b88, rfl, N88q, gb88, K88, E88, Fa88, Fc88⟩ := hQ88
      have N88 := Fr.app N7 N88q
      have e88 : T88.heap = T88.heap := rfl
      have ne_aE_b88 : aE ≠ b88 := Nat.ne_of_lt (Nat.lt_of_lt_of_le f8.lt gb88)
      have ne_b3_b88 : b3 ≠ b88 := Nat.ne_of_lt (Nat.lt_of_lt_of_le E3.lt gb88)
      have ge_b88 : n0 ≤ b88 := Nat.le_trans Zk3 gb88
      have sz_b88 : h0.size ≤ b88 := Nat.le_trans Kk3.1 gb88
      have Zk88 : n0 ≤ T88.heap.size := Nat.le_trans Zk3 K88.1
      have Kk88 : Keep h0 T88.heap [] := Kk3.trans K88 all0
      obtain ⟨_, T89, Lc89, X89, hQ89, st89⟩ := own_virtual (W := 0) (y := mN8) (z := mN8) X88 hx hZ hown (hw _ (own_w 34 rfl)) (hw _ (own_w 35 rfl)) (notFace_of_selects (args := #[]) (mvT hZ (hw _ (own_w 37 rfl)))) (hw _ (own_w 37 rfl)) (hw _ (own_w 36 rfl)) (hw _ (own_w 38 rfl)) (hw _ (own_w 6 rfl)) (by decide) (rmRatP l Z av0 hw [] b88 (own_m p0) (own_r p1 (own_m p0)) T88.heap n0 Zk88 Fa88 Fc88 hc52_10) (by decide) (by decide) E88 (g := (mkF m 93 #[iv p0, iv p1, iv p2, iv p3, iv 0, rv aE, iv (own_m p0), iv ((own_r p1 (own_m p0))), iv ((own_r p2 (own_m p0))), .unset, .unset, .unset, .unset, .unset, .unset, .unset, .unset, .unset, .unset] [(.ref b88)])) rfl (by rw [hml]; rfl) (argsL := []) (rest := []) (lenOf pd__Ljava_util_OptionalDouble_ rfl) rfl (hb hby at_93) rfl e88 (by decide : 2 + 1 ≤ _) (by decide : 16 + 2 ≤ _)
      obtain ⟨b89, rfl, N89q, gb89, K89, E89, I89, V89⟩ := hQ89
      have N89 := Fr.app N88 N89q
      have e89 : T89.heap = T89.heap := rfl
      have f90 := (f8.keep K88)
      have ne_aE_b89 : aE ≠ b89 := Nat.ne_of_lt (Nat.lt_of_lt_of_le f90.lt gb89)
      have f91 := (E3.keep K88)
      have ne_b3_b89 : b3 ≠ b89 := Nat.ne_of_lt (Nat.lt_of_lt_of_le f91.lt gb89)
      have ne_b88_b89 : b88 ≠ b89 := Nat.ne_of_lt (Nat.lt_of_lt_of_le E88.lt gb89)
      have ge_b89 : n0 ≤ b89 := Nat.le_trans Zk88 gb89
      have sz_b89 : h0.size ≤ b89 := Nat.le_trans Kk88.1 gb89
      have Zk89 : n0 ≤ T89.heap.size := Nat.le_trans Zk88 K89.1
      have Kk89 : Keep h0 T89.heap [] := Kk88.trans K89 all0
      obtain ⟨_, T92, Lc92, X92, hQ92, st92⟩ := own_callS (W := 0) (y := mN7) X89 hx hZ hown (hw _ (own_w 0 rfl)) (hw _ (own_w 1 rfl)) (hw _ (own_w 2 rfl)) (hw _ (own_w 3 rfl)) (by decide) (rmMk l Z av0 hw [] (own_m p0) (own_r p2 (own_m p0)) T89.heap n0 Zk89 ) (by decide) (by decide) (g := (mkF m 102 #[iv p0, iv p1, iv p2, iv p3, iv 0, rv aE, iv (own_m p0), iv ((own_r p1 (own_m p0))), iv ((own_r p2 (own_m p0))), rv b89, .unset, .unset, .unset, .unset, .unset, .unset, .unset, .unset, .unset] [(.int (own_r p2 (own_m p0))), (.int (own_m p0))])) rfl (by rw [hml]; rfl) (argsL := [(.int (own_m p0)), (.int (own_r p2 (own_m p0)))]) (rest := []) (lenOf pd__II_Lcom_example_graftwork_graftwork_simulate_Summary_ rfl) rfl (hb hby at_102) rfl e89 (by decide : 3 + 1 ≤ _) (by decide : 18 + 8 ≤ _)
      obtain ⟨b92, rfl, N92q, gb92, K92, E92, Fa92, Fc92⟩ := hQ92
      have N92 := Fr.app N89 N92q
      have e92 : T92.heap = T92.heap := rfl
      have f93 := (f90.keep K89)
      have ne_aE_b92 : aE ≠ b92 := Nat.ne_of_lt (Nat.lt_of_lt_of_le f93.lt gb92)
      have f94 := (f91.keep K89)
      have ne_b3_b92 : b3 ≠ b92 := Nat.ne_of_lt (Nat.lt_of_lt_of_le f94.lt gb92)
      have f95 := (E88.keep K89)
      have ne_b88_b92 : b88 ≠ b92 := Nat.ne_of_lt (Nat.lt_of_lt_of_le f95.lt gb92)
      have ne_b89_b92 : b89 ≠ b92 := Nat.ne_of_lt (Nat.lt_of_lt_of_le E89.lt gb92)
      have ge_b92 : n0 ≤ b92 := Nat.le_trans Zk89 gb92
      have sz_b92 : h0.size ≤ b92 := Nat.le_trans Kk89.1 gb92
      have Zk92 : n0 ≤ T92.heap.size := Nat.le_trans Zk89 K92.1
      have Kk92 : Keep h0 T92.heap [] := Kk89.trans K92 all0
      obtain ⟨_, T96, Lc96, X96, hQ96, st96⟩ := own_virtual (W := 0) (y := mN8) (z := mN8) X92 hx hZ hown (hw _ (own_w 34 rfl)) (hw _ (own_w 35 rfl)) (notFace_of_selects (args := #[]) (mvT hZ (hw _ (own_w 37 rfl)))) (hw _ (own_w 37 rfl)) (hw _ (own_w 36 rfl)) (hw _ (own_w 38 rfl)) (hw _ (own_w 6 rfl)) (by decide) (rmRatP l Z av0 hw [] b92 (own_m p0) (own_r p2 (own_m p0)) T92.heap n0 Zk92 Fa92 Fc92 hc52_10) (by decide) (by decide) E92 (g := (mkF m 105 #[iv p0, iv p1, iv p2, iv p3, iv 0, rv aE, iv (own_m p0), iv ((own_r p1 (own_m p0))), iv ((own_r p2 (own_m p0))), rv b89, .unset, .unset, .unset, .unset, .unset, .unset, .unset, .unset, .unset] [(.ref b92)])) rfl (by rw [hml]; rfl) (argsL := []) (rest := []) (lenOf pd__Ljava_util_OptionalDouble_ rfl) rfl (hb hby at_105) rfl e92 (by decide : 4 + 1 ≤ _) (by decide : 26 + 2 ≤ _)
      obtain ⟨b96, rfl, N96q, gb96, K96, E96, I96, V96⟩ := hQ96
      have N96 := Fr.app N92 N96q
      have e96 : T96.heap = T96.heap := rfl
      have f97 := (f93.keep K92)
      have ne_aE_b96 : aE ≠ b96 := Nat.ne_of_lt (Nat.lt_of_lt_of_le f97.lt gb96)
      have f98 := (f94.keep K92)
      have ne_b3_b96 : b3 ≠ b96 := Nat.ne_of_lt (Nat.lt_of_lt_of_le f98.lt gb96)
      have f99 := (f95.keep K92)
      have ne_b88_b96 : b88 ≠ b96 := Nat.ne_of_lt (Nat.lt_of_lt_of_le f99.lt gb96)
      have f100 := (E89.keep K92)
      have ne_b89_b96 : b89 ≠ b96 := Nat.ne_of_lt (Nat.lt_of_lt_of_le f100.lt gb96)
      have ne_b92_b96 : b92 ≠ b96 := Nat.ne_of_lt (Nat.lt_of_lt_of_le E92.lt gb96)
      have ge_b96 : n0 ≤ b96 := Nat.le_trans Zk92 gb96
      have sz_b96 : h0.size ≤ b96 := Nat.le_trans Kk92.1 gb96
      have Zk96 : n0 ≤ T96.heap.size := Nat.le_trans Zk92 K96.1
      have Kk96 : Keep h0 T96.heap [] := Kk92.trans K96 all0
      have f101 := ((I89.keep K92 nin0).keep K96 nin0)
      have f103 := (f100.keep K96)
      obtain ⟨_, T102, Lc102, X102, hQ102, st102⟩ := own_virtual (W := 0) (y := mN3) (z := mN3) X96 hx hZ hown (hw _ (own_w 44 rfl)) (hw _ (own_w 45 rfl)) (notFace_of_selects (args := #[]) (mvT hZ (hw _ (own_w 47 rfl)))) (hw _ (own_w 47 rfl)) (hw _ (own_w 46 rfl)) (hw _ (own_w 48 rfl)) (hw _ (own_w 41 rfl)) (by decide) (rmIs1 l Z av0 hw [] b89 T96.heap n0 Zk96 f101) (by decide) (by decide) f103 (g := (mkF m 112 #[iv p0, iv p1, iv p2, iv p3, iv 0, rv aE, iv (own_m p0), iv ((own_r p1 (own_m p0))), iv ((own_r p2 (own_m p0))), rv b89, rv b96, .unset, .unset, .unset, .unset, .unset, .unset, .unset, .unset] [(.ref b89)])) rfl (by rw [hml]; rfl) (argsL := []) (rest := []) (lenOf pd__Z rfl) rfl (hb hby at_112) rfl e96 (by decide : 5 + 0 ≤ _) (by decide : 28 + 0 ≤ _)
      obtain ⟨rfl, N102q, hh102⟩ := hQ102
      have N102 := Fr.app N96 N102q
      have e102 : T102.heap = T96.heap := hh102
      obtain ⟨_, T104, Lc104, X104, hQ104, st104⟩ := own_virtual (W := 0) (y := mN3) (z := mN3) X102 hx hZ hown (hw _ (own_w 44 rfl)) (hw _ (own_w 45 rfl)) (notFace_of_selects (args := #[]) (mvT hZ (hw _ (own_w 47 rfl)))) (hw _ (own_w 47 rfl)) (hw _ (own_w 46 rfl)) (hw _ (own_w 48 rfl)) (hw _ (own_w 41 rfl)) (by decide) (rmIs1 l Z av0 hw [] b96 T96.heap n0 Zk96 I96) (by decide) (by decide) E96 (g := (mkF m 120 #[iv p0, iv p1, iv p2, iv p3, iv 0, rv aE, iv (own_m p0), iv ((own_r p1 (own_m p0))), iv ((own_r p2 (own_m p0))), rv b89, rv b96, .unset, .unset, .unset, .unset, .unset, .unset, .unset, .unset] [(.ref b96)])) rfl (by rw [hml]; rfl) (argsL := []) (rest := []) (lenOf pd__Z rfl) rfl (hb hby at_120) rfl e102 (by decide : 5 + 0 ≤ _) (by decide : 28 + 0 ≤ _)
      obtain ⟨rfl, N104q, hh104⟩ := hQ104
      have N104 := Fr.app N102 N104q
      have e104 : T104.heap = T96.heap := hh104
      have f105 := ((V89.keep K92 nin0).keep K96 nin0)
      obtain ⟨_, T106, Lc106, X106, hQ106, st106⟩ := own_virtual (W := 0) (y := mN4) (z := mN4) X104 hx hZ hown (hw _ (own_w 64 rfl)) (hw _ (own_w 65 rfl)) (notFace_of_selects (args := #[]) (mvT hZ (hw _ (own_w 67 rfl)))) (hw _ (own_w 67 rfl)) (hw _ (own_w 66 rfl)) (hw _ (own_w 68 rfl)) (hw _ (own_w 41 rfl)) (by decide) (rmGet l Z av0 hw [] b89 (FP.ddiv (FP.i2d (own_r p1 (own_m p0))) (FP.i2d (own_m p0))) T96.heap n0 Zk96 f101 f105) (by decide) (by decide) f103 (g := (mkF m 130 #[iv p0, iv p1, iv p2, iv p3, iv 0, rv aE, iv (own_m p0), iv ((own_r p1 (own_m p0))), iv ((own_r p2 (own_m p0))), rv b89, rv b96, .unset, .unset, .unset, .unset, .unset, .unset, .unset, .unset] [(.ref b89)])) rfl (by rw [hml]; rfl) (argsL := []) (rest := []) (lenOf pd__D rfl) rfl (hb hby at_130) rfl e104 (by decide : 5 + 0 ≤ _) (by decide : 28 + 0 ≤ _)
      obtain ⟨rfl, N106q, hh106⟩ := hQ106
      have N106 := Fr.app N104 N106q
      have e106 : T106.heap = T96.heap := hh106
      obtain ⟨_, T107, Lc107, X107, hQ107, st107⟩ := own_virtual (W := 0) (y := mN4) (z := mN4) X106 hx hZ hown (hw _ (own_w 64 rfl)) (hw _ (own_w 65 rfl)) (notFace_of_selects (args := #[]) (mvT hZ (hw _ (own_w 67 rfl)))) (hw _ (own_w 67 rfl)) (hw _ (own_w 66 rfl)) (hw _ (own_w 68 rfl)) (hw _ (own_w 41 rfl)) (by decide) (rmGet l Z av0 hw [] b96 (FP.ddiv (FP.i2d (own_r p2 (own_m p0))) (FP.i2d (own_m p0))) T96.heap n0 Zk96 I96 V96) (by decide) (by decide) E96 (g := (mkF m 137 #[iv p0, iv p1, iv p2, iv p3, iv 0, rv aE, iv (own_m p0), iv ((own_r p1 (own_m p0))), iv ((own_r p2 (own_m p0))), rv b89, rv b96, .val (.double (FP.ddiv (FP.i2d (own_r p1 (own_m p0))) (FP.i2d (own_m p0)))), .second, .unset, .unset, .unset, .unset, .unset, .unset] [(.ref b96)])) rfl (by rw [hml]; rfl) (argsL := []) (rest := []) (lenOf pd__D rfl) rfl (hb hby at_137) rfl e106 (by decide : 5 + 0 ≤ _) (by decide : 28 + 0 ≤ _)
      obtain ⟨rfl, N107q, hh107⟩ := hQ107
      have N107 := Fr.app N106 N107q
      have e107 : T107.heap = T96.heap := hh107
      have S108 : ∀ tz, oS p e below T107 (mkF m 142 #[iv p0, iv p1, iv p2, iv p3, iv 0, rv aE, iv (own_m p0), iv ((own_r p1 (own_m p0))), iv ((own_r p2 (own_m p0))), rv b89, rv b96, .val (.double (FP.ddiv (FP.i2d (own_r p1 (own_m p0))) (FP.i2d (own_m p0)))), .second, .val (.double (FP.ddiv (FP.i2d (own_r p2 (own_m p0))) (FP.i2d (own_m p0)))), .second, .unset, .unset, .unset, .unset] []) tz → oS p e below s₁ (mkF m 0 #[iv p0, iv p1, iv p2, iv p3, .unset, .unset, .unset, .unset, .unset, .unset, .unset, .unset, .unset, .unset, .unset, .unset, .unset, .unset, .unset] []) tz := fun tz kz => S9 tz (by
        show oS p e below T7 (mkF m 52 #[iv p0, iv p1, iv p2, iv p3, iv 0, rv aE, iv (own_m p0), .unset, .unset, .unset, .unset, .unset, .unset, .unset, .unset, .unset, .unset, .unset, .unset] [(.int (own_m p0))]) _
        refine XS.ifYes X7.here hx rfl (pc0 := 52) (pc' := 58) rfl (hb hby at_52) rfl (XT.i0_ne_t hc52_10) (by decide) (by decide) ?_
        refine XS.iloadN X7.here hx rfl (hb hby at_58) rfl ?_
        refine X7.ldcI hx hown (mvT hZ (hw _ (own_w 51 rfl))) rfl (hb hby at_59) ?_
        refine XS.iand X7.here hx rfl (hb hby at_61) rfl ?_
        show oS p e below T7 (mkF m 62 #[iv p0, iv p1, iv p2, iv p3, iv 0, rv aE, iv (own_m p0), .unset, .unset, .unset, .unset, .unset, .unset, .unset, .unset, .unset, .unset, .unset, .unset] [(.int (p1 &&& (2147483647 : Int32)))]) _
        skip
        show oS p e below T7 (mkF m 62 #[iv p0, iv p1, iv p2, iv p3, iv 0, rv aE, iv (own_m p0), .unset, .unset, .unset, .unset, .unset, .unset, .unset, .unset, .unset, .unset, .unset, .unset] [(.int (own_m p1))]) _
        refine XT.i2l X7.here hx rfl (hb hby at_62) rfl ?_
        show oS p e below T7 (mkF m 63 #[iv p0, iv p1, iv p2, iv p3, iv 0, rv aE, iv (own_m p0), .unset, .unset, .unset, .unset, .unset, .unset, .unset, .unset, .unset, .unset, .unset, .unset] [(.long ((own_m p1)).toInt64)]) _
        refine XS.iload X7.here hx rfl (hb hby at_63) rfl ?_
        refine XT.i2l X7.here hx rfl (hb hby at_65) rfl ?_
        refine XT.lconstV X7.here hx rfl (1 : Int64) (hb hby at_66) (by decide) ?_
        refine XT.ladd X7.here hx rfl (hb hby at_67) rfl ?_
        refine XT.lrem X7.here hx rfl (hb hby at_68) rfl (own_lnz (own_mpos hc52_10)) ?_
        refine XT.l2i X7.here hx rfl (hb hby at_69) rfl ?_
        show oS p e below T7 (mkF m 70 #[iv p0, iv p1, iv p2, iv p3, iv 0, rv aE, iv (own_m p0), .unset, .unset, .unset, .unset, .unset, .unset, .unset, .unset, .unset, .unset, .unset, .unset] [(.int ((((own_m p1)).toInt64 - (((own_m p1)).toInt64 / (((own_m p0)).toInt64 + (1 : Int64))) * (((own_m p0)).toInt64 + (1 : Int64)))).toInt32)]) _
        skip
        show oS p e below T7 (mkF m 70 #[iv p0, iv p1, iv p2, iv p3, iv 0, rv aE, iv (own_m p0), .unset, .unset, .unset, .unset, .unset, .unset, .unset, .unset, .unset, .unset, .unset, .unset] [(.int (own_r p1 (own_m p0)))]) _
        refine XS.istore X7.here hx rfl (hb hby at_70) rfl (l' := #[iv p0, iv p1, iv p2, iv p3, iv 0, rv aE, iv (own_m p0), iv ((own_r p1 (own_m p0))), .unset, .unset, .unset, .unset, .unset, .unset, .unset, .unset, .unset, .unset, .unset]) rfl ?_
        refine XS.iloadN X7.here hx rfl (hb hby at_72) rfl ?_
        refine X7.ldcI hx hown (mvT hZ (hw _ (own_w 51 rfl))) rfl (hb hby at_73) ?_
        show oS p e below T7 (mkF m 75 #[iv p0, iv p1, iv p2, iv p3, iv 0, rv aE, iv (own_m p0), iv ((own_r p1 (own_m p0))), .unset, .unset, .unset, .unset, .unset, .unset, .unset, .unset, .unset, .unset, .unset] [(.int 2147483647), (.int p2)]) _
        refine XS.iand X7.here hx rfl (hb hby at_75) rfl ?_
        show oS p e below T7 (mkF m 76 #[iv p0, iv p1, iv p2, iv p3, iv 0, rv aE, iv (own_m p0), iv ((own_r p1 (own_m p0))), .unset, .unset, .unset, .unset, .unset, .unset, .unset, .unset, .unset, .unset, .unset] [(.int (p2 &&& (2147483647 : Int32)))]) _
        skip
        show oS p e below T7 (mkF m 76 #[iv p0, iv p1, iv p2, iv p3, iv 0, rv aE, iv (own_m p0), iv ((own_r p1 (own_m p0))), .unset, .unset, .unset, .unset, .unset, .unset, .unset, .unset, .unset, .unset, .unset] [(.int (own_m p2))]) _
        refine XT.i2l X7.here hx rfl (hb hby at_76) rfl ?_
        refine XS.iload X7.here hx rfl (hb hby at_77) rfl ?_
        refine XT.i2l X7.here hx rfl (hb hby at_79) rfl ?_
        refine XT.lconstV X7.here hx rfl (1 : Int64) (hb hby at_80) (by decide) ?_
        refine XT.ladd X7.here hx rfl (hb hby at_81) rfl ?_
        refine XT.lrem X7.here hx rfl (hb hby at_82) rfl (own_lnz (own_mpos hc52_10)) ?_
        refine XT.l2i X7.here hx rfl (hb hby at_83) rfl ?_
        show oS p e below T7 (mkF m 84 #[iv p0, iv p1, iv p2, iv p3, iv 0, rv aE, iv (own_m p0), iv ((own_r p1 (own_m p0))), .unset, .unset, .unset, .unset, .unset, .unset, .unset, .unset, .unset, .unset, .unset] [(.int ((((own_m p2)).toInt64 - (((own_m p2)).toInt64 / (((own_m p0)).toInt64 + (1 : Int64))) * (((own_m p0)).toInt64 + (1 : Int64)))).toInt32)]) _
        skip
        show oS p e below T7 (mkF m 84 #[iv p0, iv p1, iv p2, iv p3, iv 0, rv aE, iv (own_m p0), iv ((own_r p1 (own_m p0))), .unset, .unset, .unset, .unset, .unset, .unset, .unset, .unset, .unset, .unset, .unset] [(.int (own_r p2 (own_m p0)))]) _
        refine XS.istore X7.here hx rfl (hb hby at_84) rfl (l' := #[iv p0, iv p1, iv p2, iv p3, iv 0, rv aE, iv (own_m p0), iv ((own_r p1 (own_m p0))), iv ((own_r p2 (own_m p0))), .unset, .unset, .unset, .unset, .unset, .unset, .unset, .unset, .unset, .unset]) rfl ?_
        refine XS.iload X7.here hx rfl (hb hby at_86) rfl ?_
        refine XS.iload X7.here hx rfl (hb hby at_88) rfl ?_
        refine st88 _ ?_
        refine st89 _ ?_
        refine XS.astore X89.here hx rfl (hb hby at_96) rfl rfl (l' := #[iv p0, iv p1, iv p2, iv p3, iv 0, rv aE, iv (own_m p0), iv ((own_r p1 (own_m p0))), iv ((own_r p2 (own_m p0))), rv b89, .unset, .unset, .unset, .unset, .unset, .unset, .unset, .unset, .unset]) rfl ?_
        refine XS.iload X89.here hx rfl (hb hby at_98) rfl ?_
        refine XS.iload X89.here hx rfl (hb hby at_100) rfl ?_
        refine st92 _ ?_
        refine st96 _ ?_
        show oS p e below T96 (mkF m 108 #[iv p0, iv p1, iv p2, iv p3, iv 0, rv aE, iv (own_m p0), iv ((own_r p1 (own_m p0))), iv ((own_r p2 (own_m p0))), rv b89, .unset, .unset, .unset, .unset, .unset, .unset, .unset, .unset, .unset] [(.ref b96)]) _
        refine XS.astore X96.here hx rfl (hb hby at_108) rfl rfl (l' := #[iv p0, iv p1, iv p2, iv p3, iv 0, rv aE, iv (own_m p0), iv ((own_r p1 (own_m p0))), iv ((own_r p2 (own_m p0))), rv b89, rv b96, .unset, .unset, .unset, .unset, .unset, .unset, .unset, .unset]) rfl ?_
        refine XS.aload X96.here hx rfl (hb hby at_110) rfl rfl ?_
        refine st102 _ ?_
        refine XS.ifNo X102.here hx rfl (hb hby at_115) rfl (XT.i0_eq_f (by decide)) ?_
        refine XS.aload X102.here hx rfl (hb hby at_118) rfl rfl ?_
        refine st104 _ ?_
        refine XS.ifYes X104.here hx rfl (pc0 := 123) (pc' := 128) rfl (hb hby at_123) rfl (XT.i0_ne_t (by decide)) (by decide) (by decide) ?_
        refine XS.aload X104.here hx rfl (hb hby at_128) rfl rfl ?_
        refine st106 _ ?_
        refine XS.dstore X106.here hx rfl (hb hby at_133) rfl (l' := #[iv p0, iv p1, iv p2, iv p3, iv 0, rv aE, iv (own_m p0), iv ((own_r p1 (own_m p0))), iv ((own_r p2 (own_m p0))), rv b89, rv b96, .val (.double (FP.ddiv (FP.i2d (own_r p1 (own_m p0))) (FP.i2d (own_m p0)))), .second, .unset, .unset, .unset, .unset, .unset, .unset]) rfl ?_
        show oS p e below T106 (mkF m 135 #[iv p0, iv p1, iv p2, iv p3, iv 0, rv aE, iv (own_m p0), iv ((own_r p1 (own_m p0))), iv ((own_r p2 (own_m p0))), rv b89, rv b96, .val (.double (FP.ddiv (FP.i2d (own_r p1 (own_m p0))) (FP.i2d (own_m p0)))), .second, .unset, .unset, .unset, .unset, .unset, .unset] []) _
        refine XS.aload X106.here hx rfl (hb hby at_135) rfl rfl ?_
        refine st107 _ ?_
        refine XS.dstore X107.here hx rfl (hb hby at_140) rfl (l' := #[iv p0, iv p1, iv p2, iv p3, iv 0, rv aE, iv (own_m p0), iv ((own_r p1 (own_m p0))), iv ((own_r p2 (own_m p0))), rv b89, rv b96, .val (.double (FP.ddiv (FP.i2d (own_r p1 (own_m p0))) (FP.i2d (own_m p0)))), .second, .val (.double (FP.ddiv (FP.i2d (own_r p2 (own_m p0))) (FP.i2d (own_m p0)))), .second, .unset, .unset, .unset, .unset]) rfl ?_
        exact kz)
      have M109 : ∀ tz, oS p e below T107 (mkF m 158 #[iv p0, iv p1, iv p2, iv p3, iv 0, rv aE, iv (own_m p0), iv ((own_r p1 (own_m p0))), iv ((own_r p2 (own_m p0))), rv b89, rv b96, .val (.double (FP.ddiv (FP.i2d (own_r p1 (own_m p0))) (FP.i2d (own_m p0)))), .second, .val (.double (FP.ddiv (FP.i2d (own_r p2 (own_m p0))) (FP.i2d (own_m p0)))), .second, .unset, .unset, .unset, .unset] []) tz → oS p e below T107 (mkF m 142 #[iv p0, iv p1, iv p2, iv p3, iv 0, rv aE, iv (own_m p0), iv ((own_r p1 (own_m p0))), iv ((own_r p2 (own_m p0))), rv b89, rv b96, .val (.double (FP.ddiv (FP.i2d (own_r p1 (own_m p0))) (FP.i2d (own_m p0)))), .second, .val (.double (FP.ddiv (FP.i2d (own_r p2 (own_m p0))) (FP.i2d (own_m p0)))), .second, .unset, .unset, .unset, .unset] []) tz := by
        intro tz kz
        have S110 : ∀ tz, oS p e below T107 (mkF m 158 #[iv p0, iv p1, iv p2, iv p3, iv 0, rv aE, iv (own_m p0), iv ((own_r p1 (own_m p0))), iv ((own_r p2 (own_m p0))), rv b89, rv b96, .val (.double (FP.ddiv (FP.i2d (own_r p1 (own_m p0))) (FP.i2d (own_m p0)))), .second, .val (.double (FP.ddiv (FP.i2d (own_r p2 (own_m p0))) (FP.i2d (own_m p0)))), .second, .unset, .unset, .unset, .unset] []) tz → oS p e below T107 (mkF m 142 #[iv p0, iv p1, iv p2, iv p3, iv 0, rv aE, iv (own_m p0), iv ((own_r p1 (own_m p0))), iv ((own_r p2 (own_m p0))), rv b89, rv b96, .val (.double (FP.ddiv (FP.i2d (own_r p1 (own_m p0))) (FP.i2d (own_m p0)))), .second, .val (.double (FP.ddiv (FP.i2d (own_r p2 (own_m p0))) (FP.i2d (own_m p0)))), .second, .unset, .unset, .unset, .unset] []) tz := fun tz kz => id (by
          show oS p e below T107 (mkF m 142 #[iv p0, iv p1, iv p2, iv p3, iv 0, rv aE, iv (own_m p0), iv ((own_r p1 (own_m p0))), iv ((own_r p2 (own_m p0))), rv b89, rv b96, .val (.double (FP.ddiv (FP.i2d (own_r p1 (own_m p0))) (FP.i2d (own_m p0)))), .second, .val (.double (FP.ddiv (FP.i2d (own_r p2 (own_m p0))) (FP.i2d (own_m p0)))), .second, .unset, .unset, .unset, .unset] []) _
          refine XS.dload X107.here hx rfl (hb hby at_142) rfl ?_
          refine XS.dconst0 X107.here hx rfl (hb hby at_144) rfl ?_
          refine XS.dcmpS X107.here hx rfl (hb hby at_145) rfl rfl ?_
          refine XS.ifNo X107.here hx rfl (hb hby at_146) rfl (XT.i0_lt_f (own_t0 (own_rv p1 (own_mpos hc52_10)) (own_mpos hc52_10))) ?_
          refine XS.dload X107.here hx rfl (hb hby at_149) rfl ?_
          refine XS.dconst1 X107.here hx rfl (hb hby at_151) rfl ?_
          refine XS.dcmpS X107.here hx rfl (hb hby at_152) rfl rfl ?_
          show oS p e below T107 (mkF m 153 #[iv p0, iv p1, iv p2, iv p3, iv 0, rv aE, iv (own_m p0), iv ((own_r p1 (own_m p0))), iv ((own_r p2 (own_m p0))), rv b89, rv b96, .val (.double (FP.ddiv (FP.i2d (own_r p1 (own_m p0))) (FP.i2d (own_m p0)))), .second, .val (.double (FP.ddiv (FP.i2d (own_r p2 (own_m p0))) (FP.i2d (own_m p0)))), .second, .unset, .unset, .unset, .unset] [(.int (cmpValue (FP.dcmp (FP.ddiv (FP.i2d (own_r p1 (own_m p0))) (FP.i2d (own_m p0))) FP.dconst1) .g))]) _
          refine XS.ifYes X107.here hx rfl (pc0 := 153) (pc' := 158) rfl (hb hby at_153) rfl (XT.i0_le_t (own_t1 (own_rv p1 (own_mpos hc52_10)) (own_mpos hc52_10))) (by decide) (by decide) ?_
          exact kz)
        exact S110 tz kz
      have S111 : ∀ tz, oS p e below T107 (mkF m 158 #[iv p0, iv p1, iv p2, iv p3, iv 0, rv aE, iv (own_m p0), iv ((own_r p1 (own_m p0))), iv ((own_r p2 (own_m p0))), rv b89, rv b96, .val (.double (FP.ddiv (FP.i2d (own_r p1 (own_m p0))) (FP.i2d (own_m p0)))), .second, .val (.double (FP.ddiv (FP.i2d (own_r p2 (own_m p0))) (FP.i2d (own_m p0)))), .second, .unset, .unset, .unset, .unset] []) tz → oS p e below s₁ (mkF m 0 #[iv p0, iv p1, iv p2, iv p3, .unset, .unset, .unset, .unset, .unset, .unset, .unset, .unset, .unset, .unset, .unset, .unset, .unset, .unset, .unset] []) tz := fun tz kz => S108 tz (by
        show oS p e below T107 (mkF m 142 #[iv p0, iv p1, iv p2, iv p3, iv 0, rv aE, iv (own_m p0), iv ((own_r p1 (own_m p0))), iv ((own_r p2 (own_m p0))), rv b89, rv b96, .val (.double (FP.ddiv (FP.i2d (own_r p1 (own_m p0))) (FP.i2d (own_m p0)))), .second, .val (.double (FP.ddiv (FP.i2d (own_r p2 (own_m p0))) (FP.i2d (own_m p0)))), .second, .unset, .unset, .unset, .unset] []) _
        refine M109 _ ?_
        show oS p e below T107 (mkF m 158 #[iv p0, iv p1, iv p2, iv p3, iv 0, rv aE, iv (own_m p0), iv ((own_r p1 (own_m p0))), iv ((own_r p2 (own_m p0))), rv b89, rv b96, .val (.double (FP.ddiv (FP.i2d (own_r p1 (own_m p0))) (FP.i2d (own_m p0)))), .second, .val (.double (FP.ddiv (FP.i2d (own_r p2 (own_m p0))) (FP.i2d (own_m p0)))), .second, .unset, .unset, .unset, .unset] []) _
        exact kz)
      have M112 : ∀ tz, oS p e below T107 (mkF m 185 #[iv p0, iv p1, iv p2, iv p3, iv 0, rv aE, iv (own_m p0), iv ((own_r p1 (own_m p0))), iv ((own_r p2 (own_m p0))), rv b89, rv b96, .val (.double (FP.ddiv (FP.i2d (own_r p1 (own_m p0))) (FP.i2d (own_m p0)))), .second, .val (.double (FP.ddiv (FP.i2d (own_r p2 (own_m p0))) (FP.i2d (own_m p0)))), .second, .unset, .unset, .unset, .unset] []) tz → oS p e below T107 (mkF m 158 #[iv p0, iv p1, iv p2, iv p3, iv 0, rv aE, iv (own_m p0), iv ((own_r p1 (own_m p0))), iv ((own_r p2 (own_m p0))), rv b89, rv b96, .val (.double (FP.ddiv (FP.i2d (own_r p1 (own_m p0))) (FP.i2d (own_m p0)))), .second, .val (.double (FP.ddiv (FP.i2d (own_r p2 (own_m p0))) (FP.i2d (own_m p0)))), .second, .unset, .unset, .unset, .unset] []) tz := by
        intro tz kz
        by_cases hf158_113 : (own_r p1 (own_m p0)) = (0 : Int32)
        · have S114 : ∀ tz, oS p e below T107 (mkF m 185 #[iv p0, iv p1, iv p2, iv p3, iv 0, rv aE, iv (own_m p0), iv ((own_r p1 (own_m p0))), iv ((own_r p2 (own_m p0))), rv b89, rv b96, .val (.double (FP.ddiv (FP.i2d (own_r p1 (own_m p0))) (FP.i2d (own_m p0)))), .second, .val (.double (FP.ddiv (FP.i2d (own_r p2 (own_m p0))) (FP.i2d (own_m p0)))), .second, .unset, .unset, .unset, .unset] []) tz → oS p e below T107 (mkF m 158 #[iv p0, iv p1, iv p2, iv p3, iv 0, rv aE, iv (own_m p0), iv ((own_r p1 (own_m p0))), iv ((own_r p2 (own_m p0))), rv b89, rv b96, .val (.double (FP.ddiv (FP.i2d (own_r p1 (own_m p0))) (FP.i2d (own_m p0)))), .second, .val (.double (FP.ddiv (FP.i2d (own_r p2 (own_m p0))) (FP.i2d (own_m p0)))), .second, .unset, .unset, .unset, .unset] []) tz := fun tz kz => id (by
            show oS p e below T107 (mkF m 158 #[iv p0, iv p1, iv p2, iv p3, iv 0, rv aE, iv (own_m p0), iv ((own_r p1 (own_m p0))), iv ((own_r p2 (own_m p0))), rv b89, rv b96, .val (.double (FP.ddiv (FP.i2d (own_r p1 (own_m p0))) (FP.i2d (own_m p0)))), .second, .val (.double (FP.ddiv (FP.i2d (own_r p2 (own_m p0))) (FP.i2d (own_m p0)))), .second, .unset, .unset, .unset, .unset] []) _
            refine XS.dload X107.here hx rfl (hb hby at_158) rfl ?_
            refine XS.dconst0 X107.here hx rfl (hb hby at_160) rfl ?_
            refine XS.dcmpS X107.here hx rfl (hb hby at_161) rfl rfl ?_
            refine XS.ifNo X107.here hx rfl (hb hby at_162) rfl (XT.i0_ne_f ((own_z0 (own_rv p1 (own_mpos hc52_10)) (own_mpos hc52_10)).mpr hf158_113)) ?_
            refine XT.iconstV X107.here hx rfl (1 : Int32) (hb hby at_165) (by decide) ?_
            refine XS.goto X107.here hx rfl (pc0 := 166) (pc' := 170) rfl (hb hby at_166) (by decide) (by decide) ?_
            show oS p e below T107 (mkF m 170 #[iv p0, iv p1, iv p2, iv p3, iv 0, rv aE, iv (own_m p0), iv ((own_r p1 (own_m p0))), iv ((own_r p2 (own_m p0))), rv b89, rv b96, .val (.double (FP.ddiv (FP.i2d (own_r p1 (own_m p0))) (FP.i2d (own_m p0)))), .second, .val (.double (FP.ddiv (FP.i2d (own_r p2 (own_m p0))) (FP.i2d (own_m p0)))), .second, .unset, .unset, .unset, .unset] [(.int 1)]) _
            refine XS.iload X107.here hx rfl (hb hby at_170) rfl ?_
            refine XS.ifNo X107.here hx rfl (hb hby at_172) rfl (XT.i0_ne_f hf158_113) ?_
            refine XT.iconstV X107.here hx rfl (1 : Int32) (hb hby at_175) (by decide) ?_
            refine XS.goto X107.here hx rfl (pc0 := 176) (pc' := 180) rfl (hb hby at_176) (by decide) (by decide) ?_
            refine XS.icmpYes X107.here hx rfl (pc0 := 180) (pc' := 185) rfl (hb hby at_180) rfl (XT.ii_eq_t (by decide)) (by decide) (by decide) ?_
            exact kz)
          exact S114 tz kz
        · have S115 : ∀ tz, oS p e below T107 (mkF m 185 #[iv p0, iv p1, iv p2, iv p3, iv 0, rv aE, iv (own_m p0), iv ((own_r p1 (own_m p0))), iv ((own_r p2 (own_m p0))), rv b89, rv b96, .val (.double (FP.ddiv (FP.i2d (own_r p1 (own_m p0))) (FP.i2d (own_m p0)))), .second, .val (.double (FP.ddiv (FP.i2d (own_r p2 (own_m p0))) (FP.i2d (own_m p0)))), .second, .unset, .unset, .unset, .unset] []) tz → oS p e below T107 (mkF m 158 #[iv p0, iv p1, iv p2, iv p3, iv 0, rv aE, iv (own_m p0), iv ((own_r p1 (own_m p0))), iv ((own_r p2 (own_m p0))), rv b89, rv b96, .val (.double (FP.ddiv (FP.i2d (own_r p1 (own_m p0))) (FP.i2d (own_m p0)))), .second, .val (.double (FP.ddiv (FP.i2d (own_r p2 (own_m p0))) (FP.i2d (own_m p0)))), .second, .unset, .unset, .unset, .unset] []) tz := fun tz kz => id (by
            show oS p e below T107 (mkF m 158 #[iv p0, iv p1, iv p2, iv p3, iv 0, rv aE, iv (own_m p0), iv ((own_r p1 (own_m p0))), iv ((own_r p2 (own_m p0))), rv b89, rv b96, .val (.double (FP.ddiv (FP.i2d (own_r p1 (own_m p0))) (FP.i2d (own_m p0)))), .second, .val (.double (FP.ddiv (FP.i2d (own_r p2 (own_m p0))) (FP.i2d (own_m p0)))), .second, .unset, .unset, .unset, .unset] []) _
            refine XS.dload X107.here hx rfl (hb hby at_158) rfl ?_
            refine XS.dconst0 X107.here hx rfl (hb hby at_160) rfl ?_
            refine XS.dcmpS X107.here hx rfl (hb hby at_161) rfl rfl ?_
            refine XS.ifYes X107.here hx rfl (pc0 := 162) (pc' := 169) rfl (hb hby at_162) rfl (XT.i0_ne_t (fun q => hf158_113 ((own_z0 (own_rv p1 (own_mpos hc52_10)) (own_mpos hc52_10)).mp q))) (by decide) (by decide) ?_
            refine XT.iconstV X107.here hx rfl (0 : Int32) (hb hby at_169) (by decide) ?_
            refine XS.iload X107.here hx rfl (hb hby at_170) rfl ?_
            show oS p e below T107 (mkF m 172 #[iv p0, iv p1, iv p2, iv p3, iv 0, rv aE, iv (own_m p0), iv ((own_r p1 (own_m p0))), iv ((own_r p2 (own_m p0))), rv b89, rv b96, .val (.double (FP.ddiv (FP.i2d (own_r p1 (own_m p0))) (FP.i2d (own_m p0)))), .second, .val (.double (FP.ddiv (FP.i2d (own_r p2 (own_m p0))) (FP.i2d (own_m p0)))), .second, .unset, .unset, .unset, .unset] [(.int (own_r p1 (own_m p0))), (.int 0)]) _
            refine XS.ifYes X107.here hx rfl (pc0 := 172) (pc' := 179) rfl (hb hby at_172) rfl (XT.i0_ne_t hf158_113) (by decide) (by decide) ?_
            refine XT.iconstV X107.here hx rfl (0 : Int32) (hb hby at_179) (by decide) ?_
            refine XS.icmpYes X107.here hx rfl (pc0 := 180) (pc' := 185) rfl (hb hby at_180) rfl (XT.ii_eq_t (by decide)) (by decide) (by decide) ?_
            exact kz)
          exact S115 tz kz
      have S116 : ∀ tz, oS p e below T107 (mkF m 185 #[iv p0, iv p1, iv p2, iv p3, iv 0, rv aE, iv (own_m p0), iv ((own_r p1 (own_m p0))), iv ((own_r p2 (own_m p0))), rv b89, rv b96, .val (.double (FP.ddiv (FP.i2d (own_r p1 (own_m p0))) (FP.i2d (own_m p0)))), .second, .val (.double (FP.ddiv (FP.i2d (own_r p2 (own_m p0))) (FP.i2d (own_m p0)))), .second, .unset, .unset, .unset, .unset] []) tz → oS p e below s₁ (mkF m 0 #[iv p0, iv p1, iv p2, iv p3, .unset, .unset, .unset, .unset, .unset, .unset, .unset, .unset, .unset, .unset, .unset, .unset, .unset, .unset, .unset] []) tz := fun tz kz => S111 tz (by
        show oS p e below T107 (mkF m 158 #[iv p0, iv p1, iv p2, iv p3, iv 0, rv aE, iv (own_m p0), iv ((own_r p1 (own_m p0))), iv ((own_r p2 (own_m p0))), rv b89, rv b96, .val (.double (FP.ddiv (FP.i2d (own_r p1 (own_m p0))) (FP.i2d (own_m p0)))), .second, .val (.double (FP.ddiv (FP.i2d (own_r p2 (own_m p0))) (FP.i2d (own_m p0)))), .second, .unset, .unset, .unset, .unset] []) _
        refine M112 _ ?_
        show oS p e below T107 (mkF m 185 #[iv p0, iv p1, iv p2, iv p3, iv 0, rv aE, iv (own_m p0), iv ((own_r p1 (own_m p0))), iv ((own_r p2 (own_m p0))), rv b89, rv b96, .val (.double (FP.ddiv (FP.i2d (own_r p1 (own_m p0))) (FP.i2d (own_m p0)))), .second, .val (.double (FP.ddiv (FP.i2d (own_r p2 (own_m p0))) (FP.i2d (own_m p0)))), .second, .unset, .unset, .unset, .unset] []) _
        exact kz)
      have M117 : ∀ tz, oS p e below T107 (mkF m 214 #[iv p0, iv p1, iv p2, iv p3, iv 0, rv aE, iv (own_m p0), iv ((own_r p1 (own_m p0))), iv ((own_r p2 (own_m p0))), rv b89, rv b96, .val (.double (FP.ddiv (FP.i2d (own_r p1 (own_m p0))) (FP.i2d (own_m p0)))), .second, .val (.double (FP.ddiv (FP.i2d (own_r p2 (own_m p0))) (FP.i2d (own_m p0)))), .second, .unset, .unset, .unset, .unset] []) tz → oS p e below T107 (mkF m 185 #[iv p0, iv p1, iv p2, iv p3, iv 0, rv aE, iv (own_m p0), iv ((own_r p1 (own_m p0))), iv ((own_r p2 (own_m p0))), rv b89, rv b96, .val (.double (FP.ddiv (FP.i2d (own_r p1 (own_m p0))) (FP.i2d (own_m p0)))), .second, .val (.double (FP.ddiv (FP.i2d (own_r p2 (own_m p0))) (FP.i2d (own_m p0)))), .second, .unset, .unset, .unset, .unset] []) tz := by
        intro tz kz
        by_cases hf185_118 : (own_r p1 (own_m p0)) = (own_m p0)
        · have S119 : ∀ tz, oS p e below T107 (mkF m 214 #[iv p0, iv p1, iv p2, iv p3, iv 0, rv aE, iv (own_m p0), iv ((own_r p1 (own_m p0))), iv ((own_r p2 (own_m p0))), rv b89, rv b96, .val (.double (FP.ddiv (FP.i2d (own_r p1 (own_m p0))) (FP.i2d (own_m p0)))), .second, .val (.double (FP.ddiv (FP.i2d (own_r p2 (own_m p0))) (FP.i2d (own_m p0)))), .second, .unset, .unset, .unset, .unset] []) tz → oS p e below T107 (mkF m 185 #[iv p0, iv p1, iv p2, iv p3, iv 0, rv aE, iv (own_m p0), iv ((own_r p1 (own_m p0))), iv ((own_r p2 (own_m p0))), rv b89, rv b96, .val (.double (FP.ddiv (FP.i2d (own_r p1 (own_m p0))) (FP.i2d (own_m p0)))), .second, .val (.double (FP.ddiv (FP.i2d (own_r p2 (own_m p0))) (FP.i2d (own_m p0)))), .second, .unset, .unset, .unset, .unset] []) tz := fun tz kz => id (by
            show oS p e below T107 (mkF m 185 #[iv p0, iv p1, iv p2, iv p3, iv 0, rv aE, iv (own_m p0), iv ((own_r p1 (own_m p0))), iv ((own_r p2 (own_m p0))), rv b89, rv b96, .val (.double (FP.ddiv (FP.i2d (own_r p1 (own_m p0))) (FP.i2d (own_m p0)))), .second, .val (.double (FP.ddiv (FP.i2d (own_r p2 (own_m p0))) (FP.i2d (own_m p0)))), .second, .unset, .unset, .unset, .unset] []) _
            refine XS.dload X107.here hx rfl (hb hby at_185) rfl ?_
            refine XS.dconst1 X107.here hx rfl (hb hby at_187) rfl ?_
            refine XS.dcmpS X107.here hx rfl (hb hby at_188) rfl rfl ?_
            refine XS.ifNo X107.here hx rfl (hb hby at_189) rfl (XT.i0_ne_f ((own_z1 (own_rv p1 (own_mpos hc52_10)) (own_mpos hc52_10)).mpr hf185_118)) ?_
            refine XT.iconstV X107.here hx rfl (1 : Int32) (hb hby at_192) (by decide) ?_
            show oS p e below T107 (mkF m 193 #[iv p0, iv p1, iv p2, iv p3, iv 0, rv aE, iv (own_m p0), iv ((own_r p1 (own_m p0))), iv ((own_r p2 (own_m p0))), rv b89, rv b96, .val (.double (FP.ddiv (FP.i2d (own_r p1 (own_m p0))) (FP.i2d (own_m p0)))), .second, .val (.double (FP.ddiv (FP.i2d (own_r p2 (own_m p0))) (FP.i2d (own_m p0)))), .second, .unset, .unset, .unset, .unset] [(.int 1)]) _
            refine XS.goto X107.here hx rfl (pc0 := 193) (pc' := 197) rfl (hb hby at_193) (by decide) (by decide) ?_
            refine XS.iload X107.here hx rfl (hb hby at_197) rfl ?_
            refine XS.iload X107.here hx rfl (hb hby at_199) rfl ?_
            refine XS.icmpNo X107.here hx rfl (hb hby at_201) rfl (XT.ii_ne_f hf185_118) ?_
            refine XT.iconstV X107.here hx rfl (1 : Int32) (hb hby at_204) (by decide) ?_
            refine XS.goto X107.here hx rfl (pc0 := 205) (pc' := 209) rfl (hb hby at_205) (by decide) (by decide) ?_
            refine XS.icmpYes X107.here hx rfl (pc0 := 209) (pc' := 214) rfl (hb hby at_209) rfl (XT.ii_eq_t (by decide)) (by decide) (by decide) ?_
            exact kz)
          exact S119 tz kz
        · have S120 : ∀ tz, oS p e below T107 (mkF m 214 #[iv p0, iv p1, iv p2, iv p3, iv 0, rv aE, iv (own_m p0), iv ((own_r p1 (own_m p0))), iv ((own_r p2 (own_m p0))), rv b89, rv b96, .val (.double (FP.ddiv (FP.i2d (own_r p1 (own_m p0))) (FP.i2d (own_m p0)))), .second, .val (.double (FP.ddiv (FP.i2d (own_r p2 (own_m p0))) (FP.i2d (own_m p0)))), .second, .unset, .unset, .unset, .unset] []) tz → oS p e below T107 (mkF m 185 #[iv p0, iv p1, iv p2, iv p3, iv 0, rv aE, iv (own_m p0), iv ((own_r p1 (own_m p0))), iv ((own_r p2 (own_m p0))), rv b89, rv b96, .val (.double (FP.ddiv (FP.i2d (own_r p1 (own_m p0))) (FP.i2d (own_m p0)))), .second, .val (.double (FP.ddiv (FP.i2d (own_r p2 (own_m p0))) (FP.i2d (own_m p0)))), .second, .unset, .unset, .unset, .unset] []) tz := fun tz kz => id (by
            show oS p e below T107 (mkF m 185 #[iv p0, iv p1, iv p2, iv p3, iv 0, rv aE, iv (own_m p0), iv ((own_r p1 (own_m p0))), iv ((own_r p2 (own_m p0))), rv b89, rv b96, .val (.double (FP.ddiv (FP.i2d (own_r p1 (own_m p0))) (FP.i2d (own_m p0)))), .second, .val (.double (FP.ddiv (FP.i2d (own_r p2 (own_m p0))) (FP.i2d (own_m p0)))), .second, .unset, .unset, .unset, .unset] []) _
            refine XS.dload X107.here hx rfl (hb hby at_185) rfl ?_
            refine XS.dconst1 X107.here hx rfl (hb hby at_187) rfl ?_
            refine XS.dcmpS X107.here hx rfl (hb hby at_188) rfl rfl ?_
            refine XS.ifYes X107.here hx rfl (pc0 := 189) (pc' := 196) rfl (hb hby at_189) rfl (XT.i0_ne_t (fun q => hf185_118 ((own_z1 (own_rv p1 (own_mpos hc52_10)) (own_mpos hc52_10)).mp q))) (by decide) (by decide) ?_
            refine XT.iconstV X107.here hx rfl (0 : Int32) (hb hby at_196) (by decide) ?_
            show oS p e below T107 (mkF m 197 #[iv p0, iv p1, iv p2, iv p3, iv 0, rv aE, iv (own_m p0), iv ((own_r p1 (own_m p0))), iv ((own_r p2 (own_m p0))), rv b89, rv b96, .val (.double (FP.ddiv (FP.i2d (own_r p1 (own_m p0))) (FP.i2d (own_m p0)))), .second, .val (.double (FP.ddiv (FP.i2d (own_r p2 (own_m p0))) (FP.i2d (own_m p0)))), .second, .unset, .unset, .unset, .unset] [(.int 0)]) _
            refine XS.iload X107.here hx rfl (hb hby at_197) rfl ?_
            refine XS.iload X107.here hx rfl (hb hby at_199) rfl ?_
            refine XS.icmpYes X107.here hx rfl (pc0 := 201) (pc' := 208) rfl (hb hby at_201) rfl (XT.ii_ne_t hf185_118) (by decide) (by decide) ?_
            refine XT.iconstV X107.here hx rfl (0 : Int32) (hb hby at_208) (by decide) ?_
            refine XS.icmpYes X107.here hx rfl (pc0 := 209) (pc' := 214) rfl (hb hby at_209) rfl (XT.ii_eq_t (by decide)) (by decide) (by decide) ?_
            exact kz)
          exact S120 tz kz
      have S121 : ∀ tz, oS p e below T107 (mkF m 214 #[iv p0, iv p1, iv p2, iv p3, iv 0, rv aE, iv (own_m p0), iv ((own_r p1 (own_m p0))), iv ((own_r p2 (own_m p0))), rv b89, rv b96, .val (.double (FP.ddiv (FP.i2d (own_r p1 (own_m p0))) (FP.i2d (own_m p0)))), .second, .val (.double (FP.ddiv (FP.i2d (own_r p2 (own_m p0))) (FP.i2d (own_m p0)))), .second, .unset, .unset, .unset, .unset] []) tz → oS p e below s₁ (mkF m 0 #[iv p0, iv p1, iv p2, iv p3, .unset, .unset, .unset, .unset, .unset, .unset, .unset, .unset, .unset, .unset, .unset, .unset, .unset, .unset, .unset] []) tz := fun tz kz => S116 tz (by
        show oS p e below T107 (mkF m 185 #[iv p0, iv p1, iv p2, iv p3, iv 0, rv aE, iv (own_m p0), iv ((own_r p1 (own_m p0))), iv ((own_r p2 (own_m p0))), rv b89, rv b96, .val (.double (FP.ddiv (FP.i2d (own_r p1 (own_m p0))) (FP.i2d (own_m p0)))), .second, .val (.double (FP.ddiv (FP.i2d (own_r p2 (own_m p0))) (FP.i2d (own_m p0)))), .second, .unset, .unset, .unset, .unset] []) _
        refine M117 _ ?_
        show oS p e below T107 (mkF m 214 #[iv p0, iv p1, iv p2, iv p3, iv 0, rv aE, iv (own_m p0), iv ((own_r p1 (own_m p0))), iv ((own_r p2 (own_m p0))), rv b89, rv b96, .val (.double (FP.ddiv (FP.i2d (own_r p1 (own_m p0))) (FP.i2d (own_m p0)))), .second, .val (.double (FP.ddiv (FP.i2d (own_r p2 (own_m p0))) (FP.i2d (own_m p0)))), .second, .unset, .unset, .unset, .unset] []) _
        exact kz)
      have M122 : ∀ tz, oS p e below T107 (mkF m 244 #[iv p0, iv p1, iv p2, iv p3, iv 0, rv aE, iv (own_m p0), iv ((own_r p1 (own_m p0))), iv ((own_r p2 (own_m p0))), rv b89, rv b96, .val (.double (FP.ddiv (FP.i2d (own_r p1 (own_m p0))) (FP.i2d (own_m p0)))), .second, .val (.double (FP.ddiv (FP.i2d (own_r p2 (own_m p0))) (FP.i2d (own_m p0)))), .second, .unset, .unset, .unset, .unset] []) tz → oS p e below T107 (mkF m 214 #[iv p0, iv p1, iv p2, iv p3, iv 0, rv aE, iv (own_m p0), iv ((own_r p1 (own_m p0))), iv ((own_r p2 (own_m p0))), rv b89, rv b96, .val (.double (FP.ddiv (FP.i2d (own_r p1 (own_m p0))) (FP.i2d (own_m p0)))), .second, .val (.double (FP.ddiv (FP.i2d (own_r p2 (own_m p0))) (FP.i2d (own_m p0)))), .second, .unset, .unset, .unset, .unset] []) tz := by
        intro tz kz
        by_cases hf214_123 : (own_r p1 (own_m p0)) < (own_r p2 (own_m p0))
        · have S124 : ∀ tz, oS p e below T107 (mkF m 244 #[iv p0, iv p1, iv p2, iv p3, iv 0, rv aE, iv (own_m p0), iv ((own_r p1 (own_m p0))), iv ((own_r p2 (own_m p0))), rv b89, rv b96, .val (.double (FP.ddiv (FP.i2d (own_r p1 (own_m p0))) (FP.i2d (own_m p0)))), .second, .val (.double (FP.ddiv (FP.i2d (own_r p2 (own_m p0))) (FP.i2d (own_m p0)))), .second, .unset, .unset, .unset, .unset] []) tz → oS p e below T107 (mkF m 214 #[iv p0, iv p1, iv p2, iv p3, iv 0, rv aE, iv (own_m p0), iv ((own_r p1 (own_m p0))), iv ((own_r p2 (own_m p0))), rv b89, rv b96, .val (.double (FP.ddiv (FP.i2d (own_r p1 (own_m p0))) (FP.i2d (own_m p0)))), .second, .val (.double (FP.ddiv (FP.i2d (own_r p2 (own_m p0))) (FP.i2d (own_m p0)))), .second, .unset, .unset, .unset, .unset] []) tz := fun tz kz => id (by
            show oS p e below T107 (mkF m 214 #[iv p0, iv p1, iv p2, iv p3, iv 0, rv aE, iv (own_m p0), iv ((own_r p1 (own_m p0))), iv ((own_r p2 (own_m p0))), rv b89, rv b96, .val (.double (FP.ddiv (FP.i2d (own_r p1 (own_m p0))) (FP.i2d (own_m p0)))), .second, .val (.double (FP.ddiv (FP.i2d (own_r p2 (own_m p0))) (FP.i2d (own_m p0)))), .second, .unset, .unset, .unset, .unset] []) _
            refine XS.iload X107.here hx rfl (hb hby at_214) rfl ?_
            refine XS.iload X107.here hx rfl (hb hby at_216) rfl ?_
            refine XS.icmpNo X107.here hx rfl (hb hby at_218) rfl (XT.ii_ge_f hf214_123) ?_
            refine XT.iconstV X107.here hx rfl (1 : Int32) (hb hby at_221) (by decide) ?_
            show oS p e below T107 (mkF m 222 #[iv p0, iv p1, iv p2, iv p3, iv 0, rv aE, iv (own_m p0), iv ((own_r p1 (own_m p0))), iv ((own_r p2 (own_m p0))), rv b89, rv b96, .val (.double (FP.ddiv (FP.i2d (own_r p1 (own_m p0))) (FP.i2d (own_m p0)))), .second, .val (.double (FP.ddiv (FP.i2d (own_r p2 (own_m p0))) (FP.i2d (own_m p0)))), .second, .unset, .unset, .unset, .unset] [(.int 1)]) _
            refine XS.goto X107.here hx rfl (pc0 := 222) (pc' := 226) rfl (hb hby at_222) (by decide) (by decide) ?_
            refine XS.dload X107.here hx rfl (hb hby at_226) rfl ?_
            refine XS.dload X107.here hx rfl (hb hby at_228) rfl ?_
            refine XS.dcmpS X107.here hx rfl (hb hby at_230) rfl rfl ?_
            refine XS.ifNo X107.here hx rfl (hb hby at_231) rfl (XT.i0_ge_f ((own_tl (own_rv p1 (own_mpos hc52_10)) (own_rv p2 (own_mpos hc52_10)) (own_mpos hc52_10)).mpr hf214_123)) ?_
            refine XT.iconstV X107.here hx rfl (1 : Int32) (hb hby at_234) (by decide) ?_
            refine XS.goto X107.here hx rfl (pc0 := 235) (pc' := 239) rfl (hb hby at_235) (by decide) (by decide) ?_
            refine XS.icmpYes X107.here hx rfl (pc0 := 239) (pc' := 244) rfl (hb hby at_239) rfl (XT.ii_eq_t (by decide)) (by decide) (by decide) ?_
            exact kz)
          exact S124 tz kz
        · have S125 : ∀ tz, oS p e below T107 (mkF m 244 #[iv p0, iv p1, iv p2, iv p3, iv 0, rv aE, iv (own_m p0), iv ((own_r p1 (own_m p0))), iv ((own_r p2 (own_m p0))), rv b89, rv b96, .val (.double (FP.ddiv (FP.i2d (own_r p1 (own_m p0))) (FP.i2d (own_m p0)))), .second, .val (.double (FP.ddiv (FP.i2d (own_r p2 (own_m p0))) (FP.i2d (own_m p0)))), .second, .unset, .unset, .unset, .unset] []) tz → oS p e below T107 (mkF m 214 #[iv p0, iv p1, iv p2, iv p3, iv 0, rv aE, iv (own_m p0), iv ((own_r p1 (own_m p0))), iv ((own_r p2 (own_m p0))), rv b89, rv b96, .val (.double (FP.ddiv (FP.i2d (own_r p1 (own_m p0))) (FP.i2d (own_m p0)))), .second, .val (.double (FP.ddiv (FP.i2d (own_r p2 (own_m p0))) (FP.i2d (own_m p0)))), .second, .unset, .unset, .unset, .unset] []) tz := fun tz kz => id (by
            show oS p e below T107 (mkF m 214 #[iv p0, iv p1, iv p2, iv p3, iv 0, rv aE, iv (own_m p0), iv ((own_r p1 (own_m p0))), iv ((own_r p2 (own_m p0))), rv b89, rv b96, .val (.double (FP.ddiv (FP.i2d (own_r p1 (own_m p0))) (FP.i2d (own_m p0)))), .second, .val (.double (FP.ddiv (FP.i2d (own_r p2 (own_m p0))) (FP.i2d (own_m p0)))), .second, .unset, .unset, .unset, .unset] []) _
            refine XS.iload X107.here hx rfl (hb hby at_214) rfl ?_
            refine XS.iload X107.here hx rfl (hb hby at_216) rfl ?_
            refine XS.icmpYes X107.here hx rfl (pc0 := 218) (pc' := 225) rfl (hb hby at_218) rfl (XT.ii_ge_t hf214_123) (by decide) (by decide) ?_
            refine XT.iconstV X107.here hx rfl (0 : Int32) (hb hby at_225) (by decide) ?_
            show oS p e below T107 (mkF m 226 #[iv p0, iv p1, iv p2, iv p3, iv 0, rv aE, iv (own_m p0), iv ((own_r p1 (own_m p0))), iv ((own_r p2 (own_m p0))), rv b89, rv b96, .val (.double (FP.ddiv (FP.i2d (own_r p1 (own_m p0))) (FP.i2d (own_m p0)))), .second, .val (.double (FP.ddiv (FP.i2d (own_r p2 (own_m p0))) (FP.i2d (own_m p0)))), .second, .unset, .unset, .unset, .unset] [(.int 0)]) _
            refine XS.dload X107.here hx rfl (hb hby at_226) rfl ?_
            refine XS.dload X107.here hx rfl (hb hby at_228) rfl ?_
            refine XS.dcmpS X107.here hx rfl (hb hby at_230) rfl rfl ?_
            refine XS.ifYes X107.here hx rfl (pc0 := 231) (pc' := 238) rfl (hb hby at_231) rfl (XT.i0_ge_t (fun q => hf214_123 ((own_tl (own_rv p1 (own_mpos hc52_10)) (own_rv p2 (own_mpos hc52_10)) (own_mpos hc52_10)).mp q))) (by decide) (by decide) ?_
            refine XT.iconstV X107.here hx rfl (0 : Int32) (hb hby at_238) (by decide) ?_
            refine XS.icmpYes X107.here hx rfl (pc0 := 239) (pc' := 244) rfl (hb hby at_239) rfl (XT.ii_eq_t (by decide)) (by decide) (by decide) ?_
            exact kz)
          exact S125 tz kz
      have S126 : ∀ tz, oS p e below T107 (mkF m 244 #[iv p0, iv p1, iv p2, iv p3, iv 0, rv aE, iv (own_m p0), iv ((own_r p1 (own_m p0))), iv ((own_r p2 (own_m p0))), rv b89, rv b96, .val (.double (FP.ddiv (FP.i2d (own_r p1 (own_m p0))) (FP.i2d (own_m p0)))), .second, .val (.double (FP.ddiv (FP.i2d (own_r p2 (own_m p0))) (FP.i2d (own_m p0)))), .second, .unset, .unset, .unset, .unset] []) tz → oS p e below s₁ (mkF m 0 #[iv p0, iv p1, iv p2, iv p3, .unset, .unset, .unset, .unset, .unset, .unset, .unset, .unset, .unset, .unset, .unset, .unset, .unset, .unset, .unset] []) tz := fun tz kz => S121 tz (by
        show oS p e below T107 (mkF m 214 #[iv p0, iv p1, iv p2, iv p3, iv 0, rv aE, iv (own_m p0), iv ((own_r p1 (own_m p0))), iv ((own_r p2 (own_m p0))), rv b89, rv b96, .val (.double (FP.ddiv (FP.i2d (own_r p1 (own_m p0))) (FP.i2d (own_m p0)))), .second, .val (.double (FP.ddiv (FP.i2d (own_r p2 (own_m p0))) (FP.i2d (own_m p0)))), .second, .unset, .unset, .unset, .unset] []) _
        refine M122 _ ?_
        show oS p e below T107 (mkF m 244 #[iv p0, iv p1, iv p2, iv p3, iv 0, rv aE, iv (own_m p0), iv ((own_r p1 (own_m p0))), iv ((own_r p2 (own_m p0))), rv b89, rv b96, .val (.double (FP.ddiv (FP.i2d (own_r p1 (own_m p0))) (FP.i2d (own_m p0)))), .second, .val (.double (FP.ddiv (FP.i2d (own_r p2 (own_m p0))) (FP.i2d (own_m p0)))), .second, .unset, .unset, .unset, .unset] []) _
        exact kz)
      have M127 : ∀ tz, oS p e below T107 (mkF m 274 #[iv p0, iv p1, iv p2, iv p3, iv 0, rv aE, iv (own_m p0), iv ((own_r p1 (own_m p0))), iv ((own_r p2 (own_m p0))), rv b89, rv b96, .val (.double (FP.ddiv (FP.i2d (own_r p1 (own_m p0))) (FP.i2d (own_m p0)))), .second, .val (.double (FP.ddiv (FP.i2d (own_r p2 (own_m p0))) (FP.i2d (own_m p0)))), .second, .unset, .unset, .unset, .unset] []) tz → oS p e below T107 (mkF m 244 #[iv p0, iv p1, iv p2, iv p3, iv 0, rv aE, iv (own_m p0), iv ((own_r p1 (own_m p0))), iv ((own_r p2 (own_m p0))), rv b89, rv b96, .val (.double (FP.ddiv (FP.i2d (own_r p1 (own_m p0))) (FP.i2d (own_m p0)))), .second, .val (.double (FP.ddiv (FP.i2d (own_r p2 (own_m p0))) (FP.i2d (own_m p0)))), .second, .unset, .unset, .unset, .unset] []) tz := by
        intro tz kz
        by_cases hf244_128 : (own_r p1 (own_m p0)) = (own_r p2 (own_m p0))
        · have S129 : ∀ tz, oS p e below T107 (mkF m 274 #[iv p0, iv p1, iv p2, iv p3, iv 0, rv aE, iv (own_m p0), iv ((own_r p1 (own_m p0))), iv ((own_r p2 (own_m p0))), rv b89, rv b96, .val (.double (FP.ddiv (FP.i2d (own_r p1 (own_m p0))) (FP.i2d (own_m p0)))), .second, .val (.double (FP.ddiv (FP.i2d (own_r p2 (own_m p0))) (FP.i2d (own_m p0)))), .second, .unset, .unset, .unset, .unset] []) tz → oS p e below T107 (mkF m 244 #[iv p0, iv p1, iv p2, iv p3, iv 0, rv aE, iv (own_m p0), iv ((own_r p1 (own_m p0))), iv ((own_r p2 (own_m p0))), rv b89, rv b96, .val (.double (FP.ddiv (FP.i2d (own_r p1 (own_m p0))) (FP.i2d (own_m p0)))), .second, .val (.double (FP.ddiv (FP.i2d (own_r p2 (own_m p0))) (FP.i2d (own_m p0)))), .second, .unset, .unset, .unset, .unset] []) tz := fun tz kz => id (by
            show oS p e below T107 (mkF m 244 #[iv p0, iv p1, iv p2, iv p3, iv 0, rv aE, iv (own_m p0), iv ((own_r p1 (own_m p0))), iv ((own_r p2 (own_m p0))), rv b89, rv b96, .val (.double (FP.ddiv (FP.i2d (own_r p1 (own_m p0))) (FP.i2d (own_m p0)))), .second, .val (.double (FP.ddiv (FP.i2d (own_r p2 (own_m p0))) (FP.i2d (own_m p0)))), .second, .unset, .unset, .unset, .unset] []) _
            refine XS.iload X107.here hx rfl (hb hby at_244) rfl ?_
            refine XS.iload X107.here hx rfl (hb hby at_246) rfl ?_
            refine XS.icmpNo X107.here hx rfl (hb hby at_248) rfl (XT.ii_ne_f hf244_128) ?_
            show oS p e below T107 (mkF m 251 #[iv p0, iv p1, iv p2, iv p3, iv 0, rv aE, iv (own_m p0), iv ((own_r p1 (own_m p0))), iv ((own_r p2 (own_m p0))), rv b89, rv b96, .val (.double (FP.ddiv (FP.i2d (own_r p1 (own_m p0))) (FP.i2d (own_m p0)))), .second, .val (.double (FP.ddiv (FP.i2d (own_r p2 (own_m p0))) (FP.i2d (own_m p0)))), .second, .unset, .unset, .unset, .unset] []) _
            refine XT.iconstV X107.here hx rfl (1 : Int32) (hb hby at_251) (by decide) ?_
            refine XS.goto X107.here hx rfl (pc0 := 252) (pc' := 256) rfl (hb hby at_252) (by decide) (by decide) ?_
            refine XS.dload X107.here hx rfl (hb hby at_256) rfl ?_
            refine XS.dload X107.here hx rfl (hb hby at_258) rfl ?_
            refine XS.dcmpS X107.here hx rfl (hb hby at_260) rfl rfl ?_
            refine XS.ifNo X107.here hx rfl (hb hby at_261) rfl (XT.i0_ne_f ((own_te (own_rv p1 (own_mpos hc52_10)) (own_rv p2 (own_mpos hc52_10)) (own_mpos hc52_10)).mpr hf244_128)) ?_
            refine XT.iconstV X107.here hx rfl (1 : Int32) (hb hby at_264) (by decide) ?_
            refine XS.goto X107.here hx rfl (pc0 := 265) (pc' := 269) rfl (hb hby at_265) (by decide) (by decide) ?_
            refine XS.icmpYes X107.here hx rfl (pc0 := 269) (pc' := 274) rfl (hb hby at_269) rfl (XT.ii_eq_t (by decide)) (by decide) (by decide) ?_
            exact kz)
          exact S129 tz kz
        · have S130 : ∀ tz, oS p e below T107 (mkF m 274 #[iv p0, iv p1, iv p2, iv p3, iv 0, rv aE, iv (own_m p0), iv ((own_r p1 (own_m p0))), iv ((own_r p2 (own_m p0))), rv b89, rv b96, .val (.double (FP.ddiv (FP.i2d (own_r p1 (own_m p0))) (FP.i2d (own_m p0)))), .second, .val (.double (FP.ddiv (FP.i2d (own_r p2 (own_m p0))) (FP.i2d (own_m p0)))), .second, .unset, .unset, .unset, .unset] []) tz → oS p e below T107 (mkF m 244 #[iv p0, iv p1, iv p2, iv p3, iv 0, rv aE, iv (own_m p0), iv ((own_r p1 (own_m p0))), iv ((own_r p2 (own_m p0))), rv b89, rv b96, .val (.double (FP.ddiv (FP.i2d (own_r p1 (own_m p0))) (FP.i2d (own_m p0)))), .second, .val (.double (FP.ddiv (FP.i2d (own_r p2 (own_m p0))) (FP.i2d (own_m p0)))), .second, .unset, .unset, .unset, .unset] []) tz := fun tz kz => id (by
            show oS p e below T107 (mkF m 244 #[iv p0, iv p1, iv p2, iv p3, iv 0, rv aE, iv (own_m p0), iv ((own_r p1 (own_m p0))), iv ((own_r p2 (own_m p0))), rv b89, rv b96, .val (.double (FP.ddiv (FP.i2d (own_r p1 (own_m p0))) (FP.i2d (own_m p0)))), .second, .val (.double (FP.ddiv (FP.i2d (own_r p2 (own_m p0))) (FP.i2d (own_m p0)))), .second, .unset, .unset, .unset, .unset] []) _
            refine XS.iload X107.here hx rfl (hb hby at_244) rfl ?_
            refine XS.iload X107.here hx rfl (hb hby at_246) rfl ?_
            refine XS.icmpYes X107.here hx rfl (pc0 := 248) (pc' := 255) rfl (hb hby at_248) rfl (XT.ii_ne_t hf244_128) (by decide) (by decide) ?_
            show oS p e below T107 (mkF m 255 #[iv p0, iv p1, iv p2, iv p3, iv 0, rv aE, iv (own_m p0), iv ((own_r p1 (own_m p0))), iv ((own_r p2 (own_m p0))), rv b89, rv b96, .val (.double (FP.ddiv (FP.i2d (own_r p1 (own_m p0))) (FP.i2d (own_m p0)))), .second, .val (.double (FP.ddiv (FP.i2d (own_r p2 (own_m p0))) (FP.i2d (own_m p0)))), .second, .unset, .unset, .unset, .unset] []) _
            refine XT.iconstV X107.here hx rfl (0 : Int32) (hb hby at_255) (by decide) ?_
            refine XS.dload X107.here hx rfl (hb hby at_256) rfl ?_
            refine XS.dload X107.here hx rfl (hb hby at_258) rfl ?_
            refine XS.dcmpS X107.here hx rfl (hb hby at_260) rfl rfl ?_
            refine XS.ifYes X107.here hx rfl (pc0 := 261) (pc' := 268) rfl (hb hby at_261) rfl (XT.i0_ne_t (fun q => hf244_128 ((own_te (own_rv p1 (own_mpos hc52_10)) (own_rv p2 (own_mpos hc52_10)) (own_mpos hc52_10)).mp q))) (by decide) (by decide) ?_
            refine XT.iconstV X107.here hx rfl (0 : Int32) (hb hby at_268) (by decide) ?_
            refine XS.icmpYes X107.here hx rfl (pc0 := 269) (pc' := 274) rfl (hb hby at_269) rfl (XT.ii_eq_t (by decide)) (by decide) (by decide) ?_
            exact kz)
          exact S130 tz kz
      have S131 : ∀ tz, oS p e below T107 (mkF m 278 #[iv p0, iv p1, iv p2, iv p3, iv 0, rv aE, iv (own_m p0), iv ((own_r p1 (own_m p0))), iv ((own_r p2 (own_m p0))), rv b89, rv b96, .val (.double (FP.ddiv (FP.i2d (own_r p1 (own_m p0))) (FP.i2d (own_m p0)))), .second, .val (.double (FP.ddiv (FP.i2d (own_r p2 (own_m p0))) (FP.i2d (own_m p0)))), .second, .unset, .unset, .unset, .unset] [(.int 1073741823), (.int (own_m p0))]) tz → oS p e below s₁ (mkF m 0 #[iv p0, iv p1, iv p2, iv p3, .unset, .unset, .unset, .unset, .unset, .unset, .unset, .unset, .unset, .unset, .unset, .unset, .unset, .unset, .unset] []) tz := fun tz kz => S126 tz (by
        show oS p e below T107 (mkF m 244 #[iv p0, iv p1, iv p2, iv p3, iv 0, rv aE, iv (own_m p0), iv ((own_r p1 (own_m p0))), iv ((own_r p2 (own_m p0))), rv b89, rv b96, .val (.double (FP.ddiv (FP.i2d (own_r p1 (own_m p0))) (FP.i2d (own_m p0)))), .second, .val (.double (FP.ddiv (FP.i2d (own_r p2 (own_m p0))) (FP.i2d (own_m p0)))), .second, .unset, .unset, .unset, .unset] []) _
        refine M127 _ ?_
        show oS p e below T107 (mkF m 274 #[iv p0, iv p1, iv p2, iv p3, iv 0, rv aE, iv (own_m p0), iv ((own_r p1 (own_m p0))), iv ((own_r p2 (own_m p0))), rv b89, rv b96, .val (.double (FP.ddiv (FP.i2d (own_r p1 (own_m p0))) (FP.i2d (own_m p0)))), .second, .val (.double (FP.ddiv (FP.i2d (own_r p2 (own_m p0))) (FP.i2d (own_m p0)))), .second, .unset, .unset, .unset, .unset] []) _
        refine XS.iload X107.here hx rfl (hb hby at_274) rfl ?_
        refine X107.ldcI hx hown (mvT hZ (hw _ (own_w 69 rfl))) rfl (hb hby at_276) ?_
        show oS p e below T107 (mkF m 278 #[iv p0, iv p1, iv p2, iv p3, iv 0, rv aE, iv (own_m p0), iv ((own_r p1 (own_m p0))), iv ((own_r p2 (own_m p0))), rv b89, rv b96, .val (.double (FP.ddiv (FP.i2d (own_r p1 (own_m p0))) (FP.i2d (own_m p0)))), .second, .val (.double (FP.ddiv (FP.i2d (own_r p2 (own_m p0))) (FP.i2d (own_m p0)))), .second, .unset, .unset, .unset, .unset] [(.int 1073741823), (.int (own_m p0))]) _
        exact kz)
      by_cases hc278_132 : (1073741823 : Int32) < (own_m p0)
      · obtain ⟨_, T133, Lc133, X133, hQ133, st133⟩ := own_callS (W := 0) (y := mN7) X107 hx hZ hown (hw _ (own_w 0 rfl)) (hw _ (own_w 1 rfl)) (hw _ (own_w 2 rfl)) (hw _ (own_w 3 rfl)) (by decide) (rmMk l Z av0 hw [] (own_pp p3) (own_r p2 (own_pp p3)) T96.heap n0 Zk96 ) (by decide) (by decide) (g := (mkF m 350 #[iv p0, iv p1, iv p2, iv p3, iv 0, rv aE, iv (own_m p0), iv ((own_r p1 (own_m p0))), iv ((own_r p2 (own_m p0))), rv b89, rv b96, .val (.double (FP.ddiv (FP.i2d (own_r p1 (own_m p0))) (FP.i2d (own_m p0)))), .second, .val (.double (FP.ddiv (FP.i2d (own_r p2 (own_m p0))) (FP.i2d (own_m p0)))), .second, iv (own_kk p3), iv (own_pp p3), iv ((own_r p2 (own_pp p3))), .unset] [(.int (own_r p2 (own_pp p3))), (.int (own_pp p3))])) rfl (by rw [hml]; rfl) (argsL := [(.int (own_pp p3)), (.int (own_r p2 (own_pp p3)))]) (rest := []) (lenOf pd__II_Lcom_example_graftwork_graftwork_simulate_Summary_ rfl) rfl (hb hby at_350) rfl e107 (by decide : 5 + 1 ≤ _) (by decide : 28 + 8 ≤ _)
        obtain ⟨b133, rfl, N133q, gb133, K133, E133, Fa133, Fc133⟩ := hQ133
        have N133 := Fr.app N107 N133q
        have e133 : T133.heap = T133.heap := rfl
        have f134 := (f97.keep K96)
        have ne_aE_b133 : aE ≠ b133 := Nat.ne_of_lt (Nat.lt_of_lt_of_le f134.lt gb133)
        have f135 := (f98.keep K96)
        have ne_b3_b133 : b3 ≠ b133 := Nat.ne_of_lt (Nat.lt_of_lt_of_le f135.lt gb133)
        have f136 := (f99.keep K96)
        have ne_b88_b133 : b88 ≠ b133 := Nat.ne_of_lt (Nat.lt_of_lt_of_le f136.lt gb133)
        have ne_b89_b133 : b89 ≠ b133 := Nat.ne_of_lt (Nat.lt_of_lt_of_le f103.lt gb133)
        have f137 := (E92.keep K96)
        have ne_b92_b133 : b92 ≠ b133 := Nat.ne_of_lt (Nat.lt_of_lt_of_le f137.lt gb133)
        have ne_b96_b133 : b96 ≠ b133 := Nat.ne_of_lt (Nat.lt_of_lt_of_le E96.lt gb133)
        have ge_b133 : n0 ≤ b133 := Nat.le_trans Zk96 gb133
        have sz_b133 : h0.size ≤ b133 := Nat.le_trans Kk96.1 gb133
        have Zk133 : n0 ≤ T133.heap.size := Nat.le_trans Zk96 K133.1
        have Kk133 : Keep h0 T133.heap [] := Kk96.trans K133 all0
        obtain ⟨_, T138, Lc138, X138, hQ138, st138⟩ := own_virtual (W := 0) (y := mN8) (z := mN8) X133 hx hZ hown (hw _ (own_w 34 rfl)) (hw _ (own_w 35 rfl)) (notFace_of_selects (args := #[]) (mvT hZ (hw _ (own_w 37 rfl)))) (hw _ (own_w 37 rfl)) (hw _ (own_w 36 rfl)) (hw _ (own_w 38 rfl)) (hw _ (own_w 6 rfl)) (by decide) (rmRatP l Z av0 hw [] b133 (own_pp p3) (own_r p2 (own_pp p3)) T133.heap n0 Zk133 Fa133 Fc133 (own_pnz (own_ppos p3))) (by decide) (by decide) E133 (g := (mkF m 353 #[iv p0, iv p1, iv p2, iv p3, iv 0, rv aE, iv (own_m p0), iv ((own_r p1 (own_m p0))), iv ((own_r p2 (own_m p0))), rv b89, rv b96, .val (.double (FP.ddiv (FP.i2d (own_r p1 (own_m p0))) (FP.i2d (own_m p0)))), .second, .val (.double (FP.ddiv (FP.i2d (own_r p2 (own_m p0))) (FP.i2d (own_m p0)))), .second, iv (own_kk p3), iv (own_pp p3), iv ((own_r p2 (own_pp p3))), .unset] [(.ref b133)])) rfl (by rw [hml]; rfl) (argsL := []) (rest := []) (lenOf pd__Ljava_util_OptionalDouble_ rfl) rfl (hb hby at_353) rfl e133 (by decide : 6 + 1 ≤ _) (by decide : 36 + 2 ≤ _)
        obtain ⟨b138, rfl, N138q, gb138, K138, E138, I138, V138⟩ := hQ138
        have N138 := Fr.app N133 N138q
        have e138 : T138.heap = T138.heap := rfl
        have f139 := (f134.keep K133)
        have ne_aE_b138 : aE ≠ b138 := Nat.ne_of_lt (Nat.lt_of_lt_of_le f139.lt gb138)
        have ne_b133_b138 : b133 ≠ b138 := Nat.ne_of_lt (Nat.lt_of_lt_of_le E133.lt gb138)
        have f140 := (f135.keep K133)
        have ne_b3_b138 : b3 ≠ b138 := Nat.ne_of_lt (Nat.lt_of_lt_of_le f140.lt gb138)
        have f141 := (f136.keep K133)
        have ne_b88_b138 : b88 ≠ b138 := Nat.ne_of_lt (Nat.lt_of_lt_of_le f141.lt gb138)
        have f142 := (f103.keep K133)
        have ne_b89_b138 : b89 ≠ b138 := Nat.ne_of_lt (Nat.lt_of_lt_of_le f142.lt gb138)
        have f143 := (f137.keep K133)
        have ne_b92_b138 : b92 ≠ b138 := Nat.ne_of_lt (Nat.lt_of_lt_of_le f143.lt gb138)
        have f144 := (E96.keep K133)
        have ne_b96_b138 : b96 ≠ b138 := Nat.ne_of_lt (Nat.lt_of_lt_of_le f144.lt gb138)
        have ge_b138 : n0 ≤ b138 := Nat.le_trans Zk133 gb138
        have sz_b138 : h0.size ≤ b138 := Nat.le_trans Kk133.1 gb138
        have Zk138 : n0 ≤ T138.heap.size := Nat.le_trans Zk133 K138.1
        have Kk138 : Keep h0 T138.heap [] := Kk133.trans K138 all0
        obtain ⟨_, T145, Lc145, X145, hQ145, st145⟩ := own_virtual (W := 0) (y := mN3) (z := mN3) X138 hx hZ hown (hw _ (own_w 44 rfl)) (hw _ (own_w 45 rfl)) (notFace_of_selects (args := #[]) (mvT hZ (hw _ (own_w 47 rfl)))) (hw _ (own_w 47 rfl)) (hw _ (own_w 46 rfl)) (hw _ (own_w 48 rfl)) (hw _ (own_w 41 rfl)) (by decide) (rmIs1 l Z av0 hw [] b138 T138.heap n0 Zk138 I138) (by decide) (by decide) E138 (g := (mkF m 360 #[iv p0, iv p1, iv p2, iv p3, iv 0, rv aE, iv (own_m p0), iv ((own_r p1 (own_m p0))), iv ((own_r p2 (own_m p0))), rv b89, rv b96, .val (.double (FP.ddiv (FP.i2d (own_r p1 (own_m p0))) (FP.i2d (own_m p0)))), .second, .val (.double (FP.ddiv (FP.i2d (own_r p2 (own_m p0))) (FP.i2d (own_m p0)))), .second, iv (own_kk p3), iv (own_pp p3), iv ((own_r p2 (own_pp p3))), rv b138] [(.ref b138)])) rfl (by rw [hml]; rfl) (argsL := []) (rest := []) (lenOf pd__Z rfl) rfl (hb hby at_360) rfl e138 (by decide : 7 + 0 ≤ _) (by decide : 38 + 0 ≤ _)
        obtain ⟨rfl, N145q, hh145⟩ := hQ145
        have N145 := Fr.app N138 N145q
        have e145 : T145.heap = T138.heap := hh145
        obtain ⟨_, T146, Lc146, X146, hQ146, st146⟩ := own_virtual (W := 0) (y := mN4) (z := mN4) X145 hx hZ hown (hw _ (own_w 64 rfl)) (hw _ (own_w 65 rfl)) (notFace_of_selects (args := #[]) (mvT hZ (hw _ (own_w 67 rfl)))) (hw _ (own_w 67 rfl)) (hw _ (own_w 66 rfl)) (hw _ (own_w 68 rfl)) (hw _ (own_w 41 rfl)) (by decide) (rmGet l Z av0 hw [] b138 (FP.ddiv (FP.i2d (own_r p2 (own_pp p3))) (FP.i2d (own_pp p3))) T138.heap n0 Zk138 I138 V138) (by decide) (by decide) E138 (g := (mkF m 370 #[iv p0, iv p1, iv p2, iv p3, iv 0, rv aE, iv (own_m p0), iv ((own_r p1 (own_m p0))), iv ((own_r p2 (own_m p0))), rv b89, rv b96, .val (.double (FP.ddiv (FP.i2d (own_r p1 (own_m p0))) (FP.i2d (own_m p0)))), .second, .val (.double (FP.ddiv (FP.i2d (own_r p2 (own_m p0))) (FP.i2d (own_m p0)))), .second, iv (own_kk p3), iv (own_pp p3), iv ((own_r p2 (own_pp p3))), rv b138] [(.ref b138)])) rfl (by rw [hml]; rfl) (argsL := []) (rest := []) (lenOf pd__D rfl) rfl (hb hby at_370) rfl e145 (by decide : 7 + 0 ≤ _) (by decide : 38 + 0 ≤ _)
        obtain ⟨rfl, N146q, hh146⟩ := hQ146
        have N146 := Fr.app N145 N146q
        have e146 : T146.heap = T138.heap := hh146
        have S147 : ∀ tz, oS p e below T146 (mkF m 389 #[iv p0, iv p1, iv p2, iv p3, iv 0, rv aE, iv (own_m p0), iv ((own_r p1 (own_m p0))), iv ((own_r p2 (own_m p0))), rv b89, rv b96, .val (.double (FP.ddiv (FP.i2d (own_r p1 (own_m p0))) (FP.i2d (own_m p0)))), .second, .val (.double (FP.ddiv (FP.i2d (own_r p2 (own_m p0))) (FP.i2d (own_m p0)))), .second, iv (own_kk p3), iv (own_pp p3), iv ((own_r p2 (own_pp p3))), rv b138] [(.int 1)]) tz → oS p e below s₁ (mkF m 0 #[iv p0, iv p1, iv p2, iv p3, .unset, .unset, .unset, .unset, .unset, .unset, .unset, .unset, .unset, .unset, .unset, .unset, .unset, .unset, .unset] []) tz := fun tz kz => S131 tz (by
          show oS p e below T107 (mkF m 278 #[iv p0, iv p1, iv p2, iv p3, iv 0, rv aE, iv (own_m p0), iv ((own_r p1 (own_m p0))), iv ((own_r p2 (own_m p0))), rv b89, rv b96, .val (.double (FP.ddiv (FP.i2d (own_r p1 (own_m p0))) (FP.i2d (own_m p0)))), .second, .val (.double (FP.ddiv (FP.i2d (own_r p2 (own_m p0))) (FP.i2d (own_m p0)))), .second, .unset, .unset, .unset, .unset] [(.int 1073741823), (.int (own_m p0))]) _
          refine XS.icmpYes X107.here hx rfl (pc0 := 278) (pc' := 318) rfl (hb hby at_278) rfl (XT.ii_gt_t hc278_132) (by decide) (by decide) ?_
          refine XS.iloadN X107.here hx rfl (hb hby at_318) rfl ?_
          refine XT.iconstV X107.here hx rfl (1 : Int32) (hb hby at_319) (by decide) ?_
          refine XT.iushr X107.here hx rfl (hb hby at_320) rfl ?_
          refine XT.bipushV X107.here hx rfl (31 : Int32) (hb hby at_321) (by decide) ?_
          refine XS.irem X107.here hx rfl (hb hby at_323) rfl (by decide) ?_
          show oS p e below T107 (mkF m 324 #[iv p0, iv p1, iv p2, iv p3, iv 0, rv aE, iv (own_m p0), iv ((own_r p1 (own_m p0))), iv ((own_r p2 (own_m p0))), rv b89, rv b96, .val (.double (FP.ddiv (FP.i2d (own_r p1 (own_m p0))) (FP.i2d (own_m p0)))), .second, .val (.double (FP.ddiv (FP.i2d (own_r p2 (own_m p0))) (FP.i2d (own_m p0)))), .second, .unset, .unset, .unset, .unset] [(.int ((XT.ushr p3 (1 : Int32)) - ((XT.ushr p3 (1 : Int32)) / (31 : Int32)) * (31 : Int32)))]) _
          skip
          show oS p e below T107 (mkF m 324 #[iv p0, iv p1, iv p2, iv p3, iv 0, rv aE, iv (own_m p0), iv ((own_r p1 (own_m p0))), iv ((own_r p2 (own_m p0))), rv b89, rv b96, .val (.double (FP.ddiv (FP.i2d (own_r p1 (own_m p0))) (FP.i2d (own_m p0)))), .second, .val (.double (FP.ddiv (FP.i2d (own_r p2 (own_m p0))) (FP.i2d (own_m p0)))), .second, .unset, .unset, .unset, .unset] [(.int (own_kk p3))]) _
          refine XS.istore X107.here hx rfl (hb hby at_324) rfl (l' := #[iv p0, iv p1, iv p2, iv p3, iv 0, rv aE, iv (own_m p0), iv ((own_r p1 (own_m p0))), iv ((own_r p2 (own_m p0))), rv b89, rv b96, .val (.double (FP.ddiv (FP.i2d (own_r p1 (own_m p0))) (FP.i2d (own_m p0)))), .second, .val (.double (FP.ddiv (FP.i2d (own_r p2 (own_m p0))) (FP.i2d (own_m p0)))), .second, iv (own_kk p3), .unset, .unset, .unset]) rfl ?_
          refine XT.iconstV X107.here hx rfl (1 : Int32) (hb hby at_326) (by decide) ?_
          refine XS.iload X107.here hx rfl (hb hby at_327) rfl ?_
          show oS p e below T107 (mkF m 329 #[iv p0, iv p1, iv p2, iv p3, iv 0, rv aE, iv (own_m p0), iv ((own_r p1 (own_m p0))), iv ((own_r p2 (own_m p0))), rv b89, rv b96, .val (.double (FP.ddiv (FP.i2d (own_r p1 (own_m p0))) (FP.i2d (own_m p0)))), .second, .val (.double (FP.ddiv (FP.i2d (own_r p2 (own_m p0))) (FP.i2d (own_m p0)))), .second, iv (own_kk p3), .unset, .unset, .unset] [(.int (own_kk p3)), (.int 1)]) _
          refine XT.ishl X107.here hx rfl (hb hby at_329) rfl ?_
          show oS p e below T107 (mkF m 330 #[iv p0, iv p1, iv p2, iv p3, iv 0, rv aE, iv (own_m p0), iv ((own_r p1 (own_m p0))), iv ((own_r p2 (own_m p0))), rv b89, rv b96, .val (.double (FP.ddiv (FP.i2d (own_r p1 (own_m p0))) (FP.i2d (own_m p0)))), .second, .val (.double (FP.ddiv (FP.i2d (own_r p2 (own_m p0))) (FP.i2d (own_m p0)))), .second, iv (own_kk p3), .unset, .unset, .unset] [(.int ((1 : Int32) <<< ((own_kk p3) &&& 31)))]) _
          skip
          show oS p e below T107 (mkF m 330 #[iv p0, iv p1, iv p2, iv p3, iv 0, rv aE, iv (own_m p0), iv ((own_r p1 (own_m p0))), iv ((own_r p2 (own_m p0))), rv b89, rv b96, .val (.double (FP.ddiv (FP.i2d (own_r p1 (own_m p0))) (FP.i2d (own_m p0)))), .second, .val (.double (FP.ddiv (FP.i2d (own_r p2 (own_m p0))) (FP.i2d (own_m p0)))), .second, iv (own_kk p3), .unset, .unset, .unset] [(.int (own_pp p3))]) _
          refine XS.istore X107.here hx rfl (hb hby at_330) rfl (l' := #[iv p0, iv p1, iv p2, iv p3, iv 0, rv aE, iv (own_m p0), iv ((own_r p1 (own_m p0))), iv ((own_r p2 (own_m p0))), rv b89, rv b96, .val (.double (FP.ddiv (FP.i2d (own_r p1 (own_m p0))) (FP.i2d (own_m p0)))), .second, .val (.double (FP.ddiv (FP.i2d (own_r p2 (own_m p0))) (FP.i2d (own_m p0)))), .second, iv (own_kk p3), iv (own_pp p3), .unset, .unset]) rfl ?_
          refine XS.iloadN X107.here hx rfl (hb hby at_332) rfl ?_
          refine X107.ldcI hx hown (mvT hZ (hw _ (own_w 51 rfl))) rfl (hb hby at_333) ?_
          refine XS.iand X107.here hx rfl (hb hby at_335) rfl ?_
          show oS p e below T107 (mkF m 336 #[iv p0, iv p1, iv p2, iv p3, iv 0, rv aE, iv (own_m p0), iv ((own_r p1 (own_m p0))), iv ((own_r p2 (own_m p0))), rv b89, rv b96, .val (.double (FP.ddiv (FP.i2d (own_r p1 (own_m p0))) (FP.i2d (own_m p0)))), .second, .val (.double (FP.ddiv (FP.i2d (own_r p2 (own_m p0))) (FP.i2d (own_m p0)))), .second, iv (own_kk p3), iv (own_pp p3), .unset, .unset] [(.int (p2 &&& (2147483647 : Int32)))]) _
          skip
          show oS p e below T107 (mkF m 336 #[iv p0, iv p1, iv p2, iv p3, iv 0, rv aE, iv (own_m p0), iv ((own_r p1 (own_m p0))), iv ((own_r p2 (own_m p0))), rv b89, rv b96, .val (.double (FP.ddiv (FP.i2d (own_r p1 (own_m p0))) (FP.i2d (own_m p0)))), .second, .val (.double (FP.ddiv (FP.i2d (own_r p2 (own_m p0))) (FP.i2d (own_m p0)))), .second, iv (own_kk p3), iv (own_pp p3), .unset, .unset] [(.int (own_m p2))]) _
          refine XT.i2l X107.here hx rfl (hb hby at_336) rfl ?_
          refine XS.iload X107.here hx rfl (hb hby at_337) rfl ?_
          refine XT.i2l X107.here hx rfl (hb hby at_339) rfl ?_
          show oS p e below T107 (mkF m 340 #[iv p0, iv p1, iv p2, iv p3, iv 0, rv aE, iv (own_m p0), iv ((own_r p1 (own_m p0))), iv ((own_r p2 (own_m p0))), rv b89, rv b96, .val (.double (FP.ddiv (FP.i2d (own_r p1 (own_m p0))) (FP.i2d (own_m p0)))), .second, .val (.double (FP.ddiv (FP.i2d (own_r p2 (own_m p0))) (FP.i2d (own_m p0)))), .second, iv (own_kk p3), iv (own_pp p3), .unset, .unset] [(.long ((own_pp p3)).toInt64), (.long ((own_m p2)).toInt64)]) _
          refine XT.lconstV X107.here hx rfl (1 : Int64) (hb hby at_340) (by decide) ?_
          refine XT.ladd X107.here hx rfl (hb hby at_341) rfl ?_
          refine XT.lrem X107.here hx rfl (hb hby at_342) rfl (own_lnz (own_ppos p3)) ?_
          refine XT.l2i X107.here hx rfl (hb hby at_343) rfl ?_
          show oS p e below T107 (mkF m 344 #[iv p0, iv p1, iv p2, iv p3, iv 0, rv aE, iv (own_m p0), iv ((own_r p1 (own_m p0))), iv ((own_r p2 (own_m p0))), rv b89, rv b96, .val (.double (FP.ddiv (FP.i2d (own_r p1 (own_m p0))) (FP.i2d (own_m p0)))), .second, .val (.double (FP.ddiv (FP.i2d (own_r p2 (own_m p0))) (FP.i2d (own_m p0)))), .second, iv (own_kk p3), iv (own_pp p3), .unset, .unset] [(.int ((((own_m p2)).toInt64 - (((own_m p2)).toInt64 / (((own_pp p3)).toInt64 + (1 : Int64))) * (((own_pp p3)).toInt64 + (1 : Int64)))).toInt32)]) _
          skip
          show oS p e below T107 (mkF m 344 #[iv p0, iv p1, iv p2, iv p3, iv 0, rv aE, iv (own_m p0), iv ((own_r p1 (own_m p0))), iv ((own_r p2 (own_m p0))), rv b89, rv b96, .val (.double (FP.ddiv (FP.i2d (own_r p1 (own_m p0))) (FP.i2d (own_m p0)))), .second, .val (.double (FP.ddiv (FP.i2d (own_r p2 (own_m p0))) (FP.i2d (own_m p0)))), .second, iv (own_kk p3), iv (own_pp p3), .unset, .unset] [(.int (own_r p2 (own_pp p3)))]) _
          refine XS.istore X107.here hx rfl (hb hby at_344) rfl (l' := #[iv p0, iv p1, iv p2, iv p3, iv 0, rv aE, iv (own_m p0), iv ((own_r p1 (own_m p0))), iv ((own_r p2 (own_m p0))), rv b89, rv b96, .val (.double (FP.ddiv (FP.i2d (own_r p1 (own_m p0))) (FP.i2d (own_m p0)))), .second, .val (.double (FP.ddiv (FP.i2d (own_r p2 (own_m p0))) (FP.i2d (own_m p0)))), .second, iv (own_kk p3), iv (own_pp p3), iv ((own_r p2 (own_pp p3))), .unset]) rfl ?_
          refine XS.iload X107.here hx rfl (hb hby at_346) rfl ?_
          refine XS.iload X107.here hx rfl (hb hby at_348) rfl ?_
          refine st133 _ ?_
          refine st138 _ ?_
          show oS p e below T138 (mkF m 356 #[iv p0, iv p1, iv p2, iv p3, iv 0, rv aE, iv (own_m p0), iv ((own_r p1 (own_m p0))), iv ((own_r p2 (own_m p0))), rv b89, rv b96, .val (.double (FP.ddiv (FP.i2d (own_r p1 (own_m p0))) (FP.i2d (own_m p0)))), .second, .val (.double (FP.ddiv (FP.i2d (own_r p2 (own_m p0))) (FP.i2d (own_m p0)))), .second, iv (own_kk p3), iv (own_pp p3), iv ((own_r p2 (own_pp p3))), .unset] [(.ref b138)]) _
          refine XS.astore X138.here hx rfl (hb hby at_356) rfl rfl (l' := #[iv p0, iv p1, iv p2, iv p3, iv 0, rv aE, iv (own_m p0), iv ((own_r p1 (own_m p0))), iv ((own_r p2 (own_m p0))), rv b89, rv b96, .val (.double (FP.ddiv (FP.i2d (own_r p1 (own_m p0))) (FP.i2d (own_m p0)))), .second, .val (.double (FP.ddiv (FP.i2d (own_r p2 (own_m p0))) (FP.i2d (own_m p0)))), .second, iv (own_kk p3), iv (own_pp p3), iv ((own_r p2 (own_pp p3))), rv b138]) rfl ?_
          refine XS.aload X138.here hx rfl (hb hby at_358) rfl rfl ?_
          refine st145 _ ?_
          refine XS.ifYes X145.here hx rfl (pc0 := 363) (pc' := 368) rfl (hb hby at_363) rfl (XT.i0_ne_t (by decide)) (by decide) (by decide) ?_
          refine XS.aload X145.here hx rfl (hb hby at_368) rfl rfl ?_
          refine st146 _ ?_
          refine XS.iload X146.here hx rfl (hb hby at_373) rfl ?_
          refine XS.i2dS X146.here hx rfl (hb hby at_375) rfl rfl ?_
          refine XS.dmulS X146.here hx rfl (hb hby at_376) rfl (Jvm.Free.Fl.val64_no.mpr (Own.own_nnI (own_bk p2 p3))) rfl ?_
          refine XS.iload X146.here hx rfl (hb hby at_377) rfl ?_
          show oS p e below T146 (mkF m 379 #[iv p0, iv p1, iv p2, iv p3, iv 0, rv aE, iv (own_m p0), iv ((own_r p1 (own_m p0))), iv ((own_r p2 (own_m p0))), rv b89, rv b96, .val (.double (FP.ddiv (FP.i2d (own_r p1 (own_m p0))) (FP.i2d (own_m p0)))), .second, .val (.double (FP.ddiv (FP.i2d (own_r p2 (own_m p0))) (FP.i2d (own_m p0)))), .second, iv (own_kk p3), iv (own_pp p3), iv ((own_r p2 (own_pp p3))), rv b138] [(.int (own_r p2 (own_pp p3))), (.double (FP.dmul (FP.ddiv (FP.i2d (own_r p2 (own_pp p3))) (FP.i2d (own_pp p3))) (FP.i2d (own_pp p3))))]) _
          refine XS.i2dS X146.here hx rfl (hb hby at_379) rfl rfl ?_
          refine XS.dcmpS X146.here hx rfl (hb hby at_380) rfl rfl ?_
          refine XS.ifNo X146.here hx rfl (hb hby at_381) rfl (XT.i0_ne_f (own_e0 (Own.own_cmpI (own_bk p2 p3) (Jvm.FP.Core.i2d_int _)))) ?_
          refine XT.iconstV X146.here hx rfl (1 : Int32) (hb hby at_384) (by decide) ?_
          refine XS.goto X146.here hx rfl (pc0 := 385) (pc' := 389) rfl (hb hby at_385) (by decide) (by decide) ?_
          exact kz)
        obtain ⟨fs, hr, hrun, hended, hW, hsame⟩ := X146.leave (v := some (.int 1)) (fun h => by rw [Bd.returns] at h; cases h)
        refine ⟨_, _, pre0 _ (S147 _ ?_), hrun, hended, _, _, rfl, ?_, ⟨_, rfl⟩, hW, hsame.mono (by decide) (by decide)⟩
        · exact retN X146 hx (t := .boolean) Bd.returns (by simp) (hb hby at_389) hr
        · show Qrm0 Z p0 p1 p2 p3 aE h0 n0 _ T146.heap _
          rw [e146]
          exact ⟨rfl, N146⟩
      · obtain ⟨_, T148, Lc148, X148, hQ148, st148⟩ := own_callS (W := 0) (y := mN7) X107 hx hZ hown (hw _ (own_w 0 rfl)) (hw _ (own_w 1 rfl)) (hw _ (own_w 2 rfl)) (hw _ (own_w 3 rfl)) (by decide) (rmMk l Z av0 hw [] ((2 : Int32) * (own_m p0)) ((2 : Int32) * (own_r p1 (own_m p0))) T96.heap n0 Zk96 ) (by decide) (by decide) (g := (mkF m 289 #[iv p0, iv p1, iv p2, iv p3, iv 0, rv aE, iv (own_m p0), iv ((own_r p1 (own_m p0))), iv ((own_r p2 (own_m p0))), rv b89, rv b96, .val (.double (FP.ddiv (FP.i2d (own_r p1 (own_m p0))) (FP.i2d (own_m p0)))), .second, .val (.double (FP.ddiv (FP.i2d (own_r p2 (own_m p0))) (FP.i2d (own_m p0)))), .second, .unset, .unset, .unset, .unset] [(.int ((2 : Int32) * (own_r p1 (own_m p0)))), (.int ((2 : Int32) * (own_m p0)))])) rfl (by rw [hml]; rfl) (argsL := [(.int ((2 : Int32) * (own_m p0))), (.int ((2 : Int32) * (own_r p1 (own_m p0))))]) (rest := []) (lenOf pd__II_Lcom_example_graftwork_graftwork_simulate_Summary_ rfl) rfl (hb hby at_289) rfl e107 (by decide : 5 + 1 ≤ _) (by decide : 28 + 8 ≤ _)
        obtain ⟨b148, rfl, N148q, gb148, K148, E148, Fa148, Fc148⟩ := hQ148
        have N148 := Fr.app N107 N148q
        have e148 : T148.heap = T148.heap := rfl
        have f149 := (f97.keep K96)
        have ne_aE_b148 : aE ≠ b148 := Nat.ne_of_lt (Nat.lt_of_lt_of_le f149.lt gb148)
        have f150 := (f98.keep K96)
        have ne_b3_b148 : b3 ≠ b148 := Nat.ne_of_lt (Nat.lt_of_lt_of_le f150.lt gb148)
        have f151 := (f99.keep K96)
        have ne_b88_b148 : b88 ≠ b148 := Nat.ne_of_lt (Nat.lt_of_lt_of_le f151.lt gb148)
        have ne_b89_b148 : b89 ≠ b148 := Nat.ne_of_lt (Nat.lt_of_lt_of_le f103.lt gb148)
        have f152 := (E92.keep K96)
        have ne_b92_b148 : b92 ≠ b148 := Nat.ne_of_lt (Nat.lt_of_lt_of_le f152.lt gb148)
        have ne_b96_b148 : b96 ≠ b148 := Nat.ne_of_lt (Nat.lt_of_lt_of_le E96.lt gb148)
        have ge_b148 : n0 ≤ b148 := Nat.le_trans Zk96 gb148
        have sz_b148 : h0.size ≤ b148 := Nat.le_trans Kk96.1 gb148
        have Zk148 : n0 ≤ T148.heap.size := Nat.le_trans Zk96 K148.1
        have Kk148 : Keep h0 T148.heap [] := Kk96.trans K148 all0
        obtain ⟨_, T153, Lc153, X153, hQ153, st153⟩ := own_virtual (W := 0) (y := mN8) (z := mN8) X148 hx hZ hown (hw _ (own_w 34 rfl)) (hw _ (own_w 35 rfl)) (notFace_of_selects (args := #[]) (mvT hZ (hw _ (own_w 37 rfl)))) (hw _ (own_w 37 rfl)) (hw _ (own_w 36 rfl)) (hw _ (own_w 38 rfl)) (hw _ (own_w 6 rfl)) (by decide) (rmRatP l Z av0 hw [] b148 ((2 : Int32) * (own_m p0)) ((2 : Int32) * (own_r p1 (own_m p0))) T148.heap n0 Zk148 Fa148 Fc148 (own_2nz (own_mpos hc52_10) hc278_132)) (by decide) (by decide) E148 (g := (mkF m 292 #[iv p0, iv p1, iv p2, iv p3, iv 0, rv aE, iv (own_m p0), iv ((own_r p1 (own_m p0))), iv ((own_r p2 (own_m p0))), rv b89, rv b96, .val (.double (FP.ddiv (FP.i2d (own_r p1 (own_m p0))) (FP.i2d (own_m p0)))), .second, .val (.double (FP.ddiv (FP.i2d (own_r p2 (own_m p0))) (FP.i2d (own_m p0)))), .second, .unset, .unset, .unset, .unset] [(.ref b148)])) rfl (by rw [hml]; rfl) (argsL := []) (rest := []) (lenOf pd__Ljava_util_OptionalDouble_ rfl) rfl (hb hby at_292) rfl e148 (by decide : 6 + 1 ≤ _) (by decide : 36 + 2 ≤ _)
        obtain ⟨b153, rfl, N153q, gb153, K153, E153, I153, V153⟩ := hQ153
        have N153 := Fr.app N148 N153q
        have e153 : T153.heap = T153.heap := rfl
        have f154 := (f149.keep K148)
        have ne_aE_b153 : aE ≠ b153 := Nat.ne_of_lt (Nat.lt_of_lt_of_le f154.lt gb153)
        have ne_b148_b153 : b148 ≠ b153 := Nat.ne_of_lt (Nat.lt_of_lt_of_le E148.lt gb153)
        have f155 := (f150.keep K148)
        have ne_b3_b153 : b3 ≠ b153 := Nat.ne_of_lt (Nat.lt_of_lt_of_le f155.lt gb153)
        have f156 := (f151.keep K148)
        have ne_b88_b153 : b88 ≠ b153 := Nat.ne_of_lt (Nat.lt_of_lt_of_le f156.lt gb153)
        have f157 := (f103.keep K148)
        have ne_b89_b153 : b89 ≠ b153 := Nat.ne_of_lt (Nat.lt_of_lt_of_le f157.lt gb153)
        have f158 := (f152.keep K148)
        have ne_b92_b153 : b92 ≠ b153 := Nat.ne_of_lt (Nat.lt_of_lt_of_le f158.lt gb153)
        have f159 := (E96.keep K148)
        have ne_b96_b153 : b96 ≠ b153 := Nat.ne_of_lt (Nat.lt_of_lt_of_le f159.lt gb153)
        have ge_b153 : n0 ≤ b153 := Nat.le_trans Zk148 gb153
        have sz_b153 : h0.size ≤ b153 := Nat.le_trans Kk148.1 gb153
        have Zk153 : n0 ≤ T153.heap.size := Nat.le_trans Zk148 K153.1
        have Kk153 : Keep h0 T153.heap [] := Kk148.trans K153 all0
        obtain ⟨_, T160, Lc160, X160, hQ160, st160⟩ := own_virtual (W := 0) (y := mN3) (z := mN3) X153 hx hZ hown (hw _ (own_w 44 rfl)) (hw _ (own_w 45 rfl)) (notFace_of_selects (args := #[]) (mvT hZ (hw _ (own_w 47 rfl)))) (hw _ (own_w 47 rfl)) (hw _ (own_w 46 rfl)) (hw _ (own_w 48 rfl)) (hw _ (own_w 41 rfl)) (by decide) (rmIs1 l Z av0 hw [] b153 T153.heap n0 Zk153 I153) (by decide) (by decide) E153 (g := (mkF m 299 #[iv p0, iv p1, iv p2, iv p3, iv 0, rv aE, iv (own_m p0), iv ((own_r p1 (own_m p0))), iv ((own_r p2 (own_m p0))), rv b89, rv b96, .val (.double (FP.ddiv (FP.i2d (own_r p1 (own_m p0))) (FP.i2d (own_m p0)))), .second, .val (.double (FP.ddiv (FP.i2d (own_r p2 (own_m p0))) (FP.i2d (own_m p0)))), .second, rv b153, .unset, .unset, .unset] [(.ref b153)])) rfl (by rw [hml]; rfl) (argsL := []) (rest := []) (lenOf pd__Z rfl) rfl (hb hby at_299) rfl e153 (by decide : 7 + 0 ≤ _) (by decide : 38 + 0 ≤ _)
        obtain ⟨rfl, N160q, hh160⟩ := hQ160
        have N160 := Fr.app N153 N160q
        have e160 : T160.heap = T153.heap := hh160
        obtain ⟨_, T161, Lc161, X161, hQ161, st161⟩ := own_virtual (W := 0) (y := mN4) (z := mN4) X160 hx hZ hown (hw _ (own_w 64 rfl)) (hw _ (own_w 65 rfl)) (notFace_of_selects (args := #[]) (mvT hZ (hw _ (own_w 67 rfl)))) (hw _ (own_w 67 rfl)) (hw _ (own_w 66 rfl)) (hw _ (own_w 68 rfl)) (hw _ (own_w 41 rfl)) (by decide) (rmGet l Z av0 hw [] b153 (FP.ddiv (FP.i2d ((2 : Int32) * (own_r p1 (own_m p0)))) (FP.i2d ((2 : Int32) * (own_m p0)))) T153.heap n0 Zk153 I153 V153) (by decide) (by decide) E153 (g := (mkF m 307 #[iv p0, iv p1, iv p2, iv p3, iv 0, rv aE, iv (own_m p0), iv ((own_r p1 (own_m p0))), iv ((own_r p2 (own_m p0))), rv b89, rv b96, .val (.double (FP.ddiv (FP.i2d (own_r p1 (own_m p0))) (FP.i2d (own_m p0)))), .second, .val (.double (FP.ddiv (FP.i2d (own_r p2 (own_m p0))) (FP.i2d (own_m p0)))), .second, rv b153, .unset, .unset, .unset] [(.ref b153)])) rfl (by rw [hml]; rfl) (argsL := []) (rest := []) (lenOf pd__D rfl) rfl (hb hby at_307) rfl e160 (by decide : 7 + 0 ≤ _) (by decide : 38 + 0 ≤ _)
        obtain ⟨rfl, N161q, hh161⟩ := hQ161
        have N161 := Fr.app N160 N161q
        have e161 : T161.heap = T153.heap := hh161
        obtain ⟨_, T162, Lc162, X162, hQ162, st162⟩ := own_callS (W := 0) (y := mN7) X161 hx hZ hown (hw _ (own_w 0 rfl)) (hw _ (own_w 1 rfl)) (hw _ (own_w 2 rfl)) (hw _ (own_w 3 rfl)) (by decide) (rmMk l Z av0 hw [] (own_pp p3) (own_r p2 (own_pp p3)) T153.heap n0 Zk153 ) (by decide) (by decide) (g := (mkF m 350 #[iv p0, iv p1, iv p2, iv p3, iv 0, rv aE, iv (own_m p0), iv ((own_r p1 (own_m p0))), iv ((own_r p2 (own_m p0))), rv b89, rv b96, .val (.double (FP.ddiv (FP.i2d (own_r p1 (own_m p0))) (FP.i2d (own_m p0)))), .second, .val (.double (FP.ddiv (FP.i2d (own_r p2 (own_m p0))) (FP.i2d (own_m p0)))), .second, iv (own_kk p3), iv (own_pp p3), iv ((own_r p2 (own_pp p3))), .unset] [(.int (own_r p2 (own_pp p3))), (.int (own_pp p3))])) rfl (by rw [hml]; rfl) (argsL := [(.int (own_pp p3)), (.int (own_r p2 (own_pp p3)))]) (rest := []) (lenOf pd__II_Lcom_example_graftwork_graftwork_simulate_Summary_ rfl) rfl (hb hby at_350) rfl e161 (by decide : 7 + 1 ≤ _) (by decide : 38 + 8 ≤ _)
        obtain ⟨b162, rfl, N162q, gb162, K162, E162, Fa162, Fc162⟩ := hQ162
        have N162 := Fr.app N161 N162q
        have e162 : T162.heap = T162.heap := rfl
        have f163 := (f154.keep K153)
        have ne_aE_b162 : aE ≠ b162 := Nat.ne_of_lt (Nat.lt_of_lt_of_le f163.lt gb162)
        have f164 := (E148.keep K153)
        have ne_b148_b162 : b148 ≠ b162 := Nat.ne_of_lt (Nat.lt_of_lt_of_le f164.lt gb162)
        have ne_b153_b162 : b153 ≠ b162 := Nat.ne_of_lt (Nat.lt_of_lt_of_le E153.lt gb162)
        have f165 := (f155.keep K153)
        have ne_b3_b162 : b3 ≠ b162 := Nat.ne_of_lt (Nat.lt_of_lt_of_le f165.lt gb162)
        have f166 := (f156.keep K153)
        have ne_b88_b162 : b88 ≠ b162 := Nat.ne_of_lt (Nat.lt_of_lt_of_le f166.lt gb162)
        have f167 := (f157.keep K153)
        have ne_b89_b162 : b89 ≠ b162 := Nat.ne_of_lt (Nat.lt_of_lt_of_le f167.lt gb162)
        have f168 := (f158.keep K153)
        have ne_b92_b162 : b92 ≠ b162 := Nat.ne_of_lt (Nat.lt_of_lt_of_le f168.lt gb162)
        have f169 := (f159.keep K153)
        have ne_b96_b162 : b96 ≠ b162 := Nat.ne_of_lt (Nat.lt_of_lt_of_le f169.lt gb162)
        have ge_b162 : n0 ≤ b162 := Nat.le_trans Zk153 gb162
        have sz_b162 : h0.size ≤ b162 := Nat.le_trans Kk153.1 gb162
        have Zk162 : n0 ≤ T162.heap.size := Nat.le_trans Zk153 K162.1
        have Kk162 : Keep h0 T162.heap [] := Kk153.trans K162 all0
        obtain ⟨_, T170, Lc170, X170, hQ170, st170⟩ := own_virtual (W := 0) (y := mN8) (z := mN8) X162 hx hZ hown (hw _ (own_w 34 rfl)) (hw _ (own_w 35 rfl)) (notFace_of_selects (args := #[]) (mvT hZ (hw _ (own_w 37 rfl)))) (hw _ (own_w 37 rfl)) (hw _ (own_w 36 rfl)) (hw _ (own_w 38 rfl)) (hw _ (own_w 6 rfl)) (by decide) (rmRatP l Z av0 hw [] b162 (own_pp p3) (own_r p2 (own_pp p3)) T162.heap n0 Zk162 Fa162 Fc162 (own_pnz (own_ppos p3))) (by decide) (by decide) E162 (g := (mkF m 353 #[iv p0, iv p1, iv p2, iv p3, iv 0, rv aE, iv (own_m p0), iv ((own_r p1 (own_m p0))), iv ((own_r p2 (own_m p0))), rv b89, rv b96, .val (.double (FP.ddiv (FP.i2d (own_r p1 (own_m p0))) (FP.i2d (own_m p0)))), .second, .val (.double (FP.ddiv (FP.i2d (own_r p2 (own_m p0))) (FP.i2d (own_m p0)))), .second, iv (own_kk p3), iv (own_pp p3), iv ((own_r p2 (own_pp p3))), .unset] [(.ref b162)])) rfl (by rw [hml]; rfl) (argsL := []) (rest := []) (lenOf pd__Ljava_util_OptionalDouble_ rfl) rfl (hb hby at_353) rfl e162 (by decide : 8 + 1 ≤ _) (by decide : 46 + 2 ≤ _)
        obtain ⟨b170, rfl, N170q, gb170, K170, E170, I170, V170⟩ := hQ170
        have N170 := Fr.app N162 N170q
        have e170 : T170.heap = T170.heap := rfl
        have f171 := (f163.keep K162)
        have ne_aE_b170 : aE ≠ b170 := Nat.ne_of_lt (Nat.lt_of_lt_of_le f171.lt gb170)
        have f172 := (f164.keep K162)
        have ne_b148_b170 : b148 ≠ b170 := Nat.ne_of_lt (Nat.lt_of_lt_of_le f172.lt gb170)
        have f173 := (E153.keep K162)
        have ne_b153_b170 : b153 ≠ b170 := Nat.ne_of_lt (Nat.lt_of_lt_of_le f173.lt gb170)
        have ne_b162_b170 : b162 ≠ b170 := Nat.ne_of_lt (Nat.lt_of_lt_of_le E162.lt gb170)
        have f174 := (f165.keep K162)
        have ne_b3_b170 : b3 ≠ b170 := Nat.ne_of_lt (Nat.lt_of_lt_of_le f174.lt gb170)
        have f175 := (f166.keep K162)
        have ne_b88_b170 : b88 ≠ b170 := Nat.ne_of_lt (Nat.lt_of_lt_of_le f175.lt gb170)
        have f176 := (f167.keep K162)
        have ne_b89_b170 : b89 ≠ b170 := Nat.ne_of_lt (Nat.lt_of_lt_of_le f176.lt gb170)
        have f177 := (f168.keep K162)
        have ne_b92_b170 : b92 ≠ b170 := Nat.ne_of_lt (Nat.lt_of_lt_of_le f177.lt gb170)
        have f178 := (f169.keep K162)
        have ne_b96_b170 : b96 ≠ b170 := Nat.ne_of_lt (Nat.lt_of_lt_of_le f178.lt gb170)
        have ge_b170 : n0 ≤ b170 := Nat.le_trans Zk162 gb170
        have sz_b170 : h0.size ≤ b170 := Nat.le_trans Kk162.1 gb170
        have Zk170 : n0 ≤ T170.heap.size := Nat.le_trans Zk162 K170.1
        have Kk170 : Keep h0 T170.heap [] := Kk162.trans K170 all0
        obtain ⟨_, T179, Lc179, X179, hQ179, st179⟩ := own_virtual (W := 0) (y := mN3) (z := mN3) X170 hx hZ hown (hw _ (own_w 44 rfl)) (hw _ (own_w 45 rfl)) (notFace_of_selects (args := #[]) (mvT hZ (hw _ (own_w 47 rfl)))) (hw _ (own_w 47 rfl)) (hw _ (own_w 46 rfl)) (hw _ (own_w 48 rfl)) (hw _ (own_w 41 rfl)) (by decide) (rmIs1 l Z av0 hw [] b170 T170.heap n0 Zk170 I170) (by decide) (by decide) E170 (g := (mkF m 360 #[iv p0, iv p1, iv p2, iv p3, iv 0, rv aE, iv (own_m p0), iv ((own_r p1 (own_m p0))), iv ((own_r p2 (own_m p0))), rv b89, rv b96, .val (.double (FP.ddiv (FP.i2d (own_r p1 (own_m p0))) (FP.i2d (own_m p0)))), .second, .val (.double (FP.ddiv (FP.i2d (own_r p2 (own_m p0))) (FP.i2d (own_m p0)))), .second, iv (own_kk p3), iv (own_pp p3), iv ((own_r p2 (own_pp p3))), rv b170] [(.ref b170)])) rfl (by rw [hml]; rfl) (argsL := []) (rest := []) (lenOf pd__Z rfl) rfl (hb hby at_360) rfl e170 (by decide : 9 + 0 ≤ _) (by decide : 48 + 0 ≤ _)
        obtain ⟨rfl, N179q, hh179⟩ := hQ179
        have N179 := Fr.app N170 N179q
        have e179 : T179.heap = T170.heap := hh179
        obtain ⟨_, T180, Lc180, X180, hQ180, st180⟩ := own_virtual (W := 0) (y := mN4) (z := mN4) X179 hx hZ hown (hw _ (own_w 64 rfl)) (hw _ (own_w 65 rfl)) (notFace_of_selects (args := #[]) (mvT hZ (hw _ (own_w 67 rfl)))) (hw _ (own_w 67 rfl)) (hw _ (own_w 66 rfl)) (hw _ (own_w 68 rfl)) (hw _ (own_w 41 rfl)) (by decide) (rmGet l Z av0 hw [] b170 (FP.ddiv (FP.i2d (own_r p2 (own_pp p3))) (FP.i2d (own_pp p3))) T170.heap n0 Zk170 I170 V170) (by decide) (by decide) E170 (g := (mkF m 370 #[iv p0, iv p1, iv p2, iv p3, iv 0, rv aE, iv (own_m p0), iv ((own_r p1 (own_m p0))), iv ((own_r p2 (own_m p0))), rv b89, rv b96, .val (.double (FP.ddiv (FP.i2d (own_r p1 (own_m p0))) (FP.i2d (own_m p0)))), .second, .val (.double (FP.ddiv (FP.i2d (own_r p2 (own_m p0))) (FP.i2d (own_m p0)))), .second, iv (own_kk p3), iv (own_pp p3), iv ((own_r p2 (own_pp p3))), rv b170] [(.ref b170)])) rfl (by rw [hml]; rfl) (argsL := []) (rest := []) (lenOf pd__D rfl) rfl (hb hby at_370) rfl e179 (by decide : 9 + 0 ≤ _) (by decide : 48 + 0 ≤ _)
        obtain ⟨rfl, N180q, hh180⟩ := hQ180
        have N180 := Fr.app N179 N180q
        have e180 : T180.heap = T170.heap := hh180
        have S181 : ∀ tz, oS p e below T180 (mkF m 389 #[iv p0, iv p1, iv p2, iv p3, iv 0, rv aE, iv (own_m p0), iv ((own_r p1 (own_m p0))), iv ((own_r p2 (own_m p0))), rv b89, rv b96, .val (.double (FP.ddiv (FP.i2d (own_r p1 (own_m p0))) (FP.i2d (own_m p0)))), .second, .val (.double (FP.ddiv (FP.i2d (own_r p2 (own_m p0))) (FP.i2d (own_m p0)))), .second, iv (own_kk p3), iv (own_pp p3), iv ((own_r p2 (own_pp p3))), rv b170] [(.int 1)]) tz → oS p e below s₁ (mkF m 0 #[iv p0, iv p1, iv p2, iv p3, .unset, .unset, .unset, .unset, .unset, .unset, .unset, .unset, .unset, .unset, .unset, .unset, .unset, .unset, .unset] []) tz := fun tz kz => S131 tz (by
          show oS p e below T107 (mkF m 278 #[iv p0, iv p1, iv p2, iv p3, iv 0, rv aE, iv (own_m p0), iv ((own_r p1 (own_m p0))), iv ((own_r p2 (own_m p0))), rv b89, rv b96, .val (.double (FP.ddiv (FP.i2d (own_r p1 (own_m p0))) (FP.i2d (own_m p0)))), .second, .val (.double (FP.ddiv (FP.i2d (own_r p2 (own_m p0))) (FP.i2d (own_m p0)))), .second, .unset, .unset, .unset, .unset] [(.int 1073741823), (.int (own_m p0))]) _
          refine XS.icmpNo X107.here hx rfl (hb hby at_278) rfl (XT.ii_gt_f hc278_132) ?_
          refine XT.iconstV X107.here hx rfl (2 : Int32) (hb hby at_281) (by decide) ?_
          refine XS.iload X107.here hx rfl (hb hby at_282) rfl ?_
          refine XS.imul X107.here hx rfl (hb hby at_284) rfl ?_
          refine XT.iconstV X107.here hx rfl (2 : Int32) (hb hby at_285) (by decide) ?_
          refine XS.iload X107.here hx rfl (hb hby at_286) rfl ?_
          refine XS.imul X107.here hx rfl (hb hby at_288) rfl ?_
          refine st148 _ ?_
          refine st153 _ ?_
          refine XS.astore X153.here hx rfl (hb hby at_295) rfl rfl (l' := #[iv p0, iv p1, iv p2, iv p3, iv 0, rv aE, iv (own_m p0), iv ((own_r p1 (own_m p0))), iv ((own_r p2 (own_m p0))), rv b89, rv b96, .val (.double (FP.ddiv (FP.i2d (own_r p1 (own_m p0))) (FP.i2d (own_m p0)))), .second, .val (.double (FP.ddiv (FP.i2d (own_r p2 (own_m p0))) (FP.i2d (own_m p0)))), .second, rv b153, .unset, .unset, .unset]) rfl ?_
          show oS p e below T153 (mkF m 297 #[iv p0, iv p1, iv p2, iv p3, iv 0, rv aE, iv (own_m p0), iv ((own_r p1 (own_m p0))), iv ((own_r p2 (own_m p0))), rv b89, rv b96, .val (.double (FP.ddiv (FP.i2d (own_r p1 (own_m p0))) (FP.i2d (own_m p0)))), .second, .val (.double (FP.ddiv (FP.i2d (own_r p2 (own_m p0))) (FP.i2d (own_m p0)))), .second, rv b153, .unset, .unset, .unset] []) _
          refine XS.aload X153.here hx rfl (hb hby at_297) rfl rfl ?_
          refine st160 _ ?_
          refine XS.ifNo X160.here hx rfl (hb hby at_302) rfl (XT.i0_eq_f (by decide)) ?_
          refine XS.aload X160.here hx rfl (hb hby at_305) rfl rfl ?_
          refine st161 _ ?_
          refine XS.dload X161.here hx rfl (hb hby at_310) rfl ?_
          refine XS.dcmpS X161.here hx rfl (hb hby at_312) rfl rfl ?_
          refine XS.ifYes X161.here hx rfl (pc0 := 313) (pc' := 318) rfl (hb hby at_313) rfl (XT.i0_eq_t (own_t2 (own_rv p1 (own_mpos hc52_10)) (own_mpos hc52_10) hc278_132)) (by decide) (by decide) ?_
          refine XS.iloadN X161.here hx rfl (hb hby at_318) rfl ?_
          refine XT.iconstV X161.here hx rfl (1 : Int32) (hb hby at_319) (by decide) ?_
          show oS p e below T161 (mkF m 320 #[iv p0, iv p1, iv p2, iv p3, iv 0, rv aE, iv (own_m p0), iv ((own_r p1 (own_m p0))), iv ((own_r p2 (own_m p0))), rv b89, rv b96, .val (.double (FP.ddiv (FP.i2d (own_r p1 (own_m p0))) (FP.i2d (own_m p0)))), .second, .val (.double (FP.ddiv (FP.i2d (own_r p2 (own_m p0))) (FP.i2d (own_m p0)))), .second, rv b153, .unset, .unset, .unset] [(.int 1), (.int p3)]) _
          refine XT.iushr X161.here hx rfl (hb hby at_320) rfl ?_
          refine XT.bipushV X161.here hx rfl (31 : Int32) (hb hby at_321) (by decide) ?_
          refine XS.irem X161.here hx rfl (hb hby at_323) rfl (by decide) ?_
          show oS p e below T161 (mkF m 324 #[iv p0, iv p1, iv p2, iv p3, iv 0, rv aE, iv (own_m p0), iv ((own_r p1 (own_m p0))), iv ((own_r p2 (own_m p0))), rv b89, rv b96, .val (.double (FP.ddiv (FP.i2d (own_r p1 (own_m p0))) (FP.i2d (own_m p0)))), .second, .val (.double (FP.ddiv (FP.i2d (own_r p2 (own_m p0))) (FP.i2d (own_m p0)))), .second, rv b153, .unset, .unset, .unset] [(.int ((XT.ushr p3 (1 : Int32)) - ((XT.ushr p3 (1 : Int32)) / (31 : Int32)) * (31 : Int32)))]) _
          skip
          show oS p e below T161 (mkF m 324 #[iv p0, iv p1, iv p2, iv p3, iv 0, rv aE, iv (own_m p0), iv ((own_r p1 (own_m p0))), iv ((own_r p2 (own_m p0))), rv b89, rv b96, .val (.double (FP.ddiv (FP.i2d (own_r p1 (own_m p0))) (FP.i2d (own_m p0)))), .second, .val (.double (FP.ddiv (FP.i2d (own_r p2 (own_m p0))) (FP.i2d (own_m p0)))), .second, rv b153, .unset, .unset, .unset] [(.int (own_kk p3))]) _
          refine XS.istore X161.here hx rfl (hb hby at_324) rfl (l' := #[iv p0, iv p1, iv p2, iv p3, iv 0, rv aE, iv (own_m p0), iv ((own_r p1 (own_m p0))), iv ((own_r p2 (own_m p0))), rv b89, rv b96, .val (.double (FP.ddiv (FP.i2d (own_r p1 (own_m p0))) (FP.i2d (own_m p0)))), .second, .val (.double (FP.ddiv (FP.i2d (own_r p2 (own_m p0))) (FP.i2d (own_m p0)))), .second, iv (own_kk p3), .unset, .unset, .unset]) rfl ?_
          refine XT.iconstV X161.here hx rfl (1 : Int32) (hb hby at_326) (by decide) ?_
          refine XS.iload X161.here hx rfl (hb hby at_327) rfl ?_
          refine XT.ishl X161.here hx rfl (hb hby at_329) rfl ?_
          show oS p e below T161 (mkF m 330 #[iv p0, iv p1, iv p2, iv p3, iv 0, rv aE, iv (own_m p0), iv ((own_r p1 (own_m p0))), iv ((own_r p2 (own_m p0))), rv b89, rv b96, .val (.double (FP.ddiv (FP.i2d (own_r p1 (own_m p0))) (FP.i2d (own_m p0)))), .second, .val (.double (FP.ddiv (FP.i2d (own_r p2 (own_m p0))) (FP.i2d (own_m p0)))), .second, iv (own_kk p3), .unset, .unset, .unset] [(.int ((1 : Int32) <<< ((own_kk p3) &&& 31)))]) _
          skip
          show oS p e below T161 (mkF m 330 #[iv p0, iv p1, iv p2, iv p3, iv 0, rv aE, iv (own_m p0), iv ((own_r p1 (own_m p0))), iv ((own_r p2 (own_m p0))), rv b89, rv b96, .val (.double (FP.ddiv (FP.i2d (own_r p1 (own_m p0))) (FP.i2d (own_m p0)))), .second, .val (.double (FP.ddiv (FP.i2d (own_r p2 (own_m p0))) (FP.i2d (own_m p0)))), .second, iv (own_kk p3), .unset, .unset, .unset] [(.int (own_pp p3))]) _
          refine XS.istore X161.here hx rfl (hb hby at_330) rfl (l' := #[iv p0, iv p1, iv p2, iv p3, iv 0, rv aE, iv (own_m p0), iv ((own_r p1 (own_m p0))), iv ((own_r p2 (own_m p0))), rv b89, rv b96, .val (.double (FP.ddiv (FP.i2d (own_r p1 (own_m p0))) (FP.i2d (own_m p0)))), .second, .val (.double (FP.ddiv (FP.i2d (own_r p2 (own_m p0))) (FP.i2d (own_m p0)))), .second, iv (own_kk p3), iv (own_pp p3), .unset, .unset]) rfl ?_
          show oS p e below T161 (mkF m 332 #[iv p0, iv p1, iv p2, iv p3, iv 0, rv aE, iv (own_m p0), iv ((own_r p1 (own_m p0))), iv ((own_r p2 (own_m p0))), rv b89, rv b96, .val (.double (FP.ddiv (FP.i2d (own_r p1 (own_m p0))) (FP.i2d (own_m p0)))), .second, .val (.double (FP.ddiv (FP.i2d (own_r p2 (own_m p0))) (FP.i2d (own_m p0)))), .second, iv (own_kk p3), iv (own_pp p3), .unset, .unset] []) _
          refine XS.iloadN X161.here hx rfl (hb hby at_332) rfl ?_
          refine X161.ldcI hx hown (mvT hZ (hw _ (own_w 51 rfl))) rfl (hb hby at_333) ?_
          refine XS.iand X161.here hx rfl (hb hby at_335) rfl ?_
          show oS p e below T161 (mkF m 336 #[iv p0, iv p1, iv p2, iv p3, iv 0, rv aE, iv (own_m p0), iv ((own_r p1 (own_m p0))), iv ((own_r p2 (own_m p0))), rv b89, rv b96, .val (.double (FP.ddiv (FP.i2d (own_r p1 (own_m p0))) (FP.i2d (own_m p0)))), .second, .val (.double (FP.ddiv (FP.i2d (own_r p2 (own_m p0))) (FP.i2d (own_m p0)))), .second, iv (own_kk p3), iv (own_pp p3), .unset, .unset] [(.int (p2 &&& (2147483647 : Int32)))]) _
          skip
          show oS p e below T161 (mkF m 336 #[iv p0, iv p1, iv p2, iv p3, iv 0, rv aE, iv (own_m p0), iv ((own_r p1 (own_m p0))), iv ((own_r p2 (own_m p0))), rv b89, rv b96, .val (.double (FP.ddiv (FP.i2d (own_r p1 (own_m p0))) (FP.i2d (own_m p0)))), .second, .val (.double (FP.ddiv (FP.i2d (own_r p2 (own_m p0))) (FP.i2d (own_m p0)))), .second, iv (own_kk p3), iv (own_pp p3), .unset, .unset] [(.int (own_m p2))]) _
          refine XT.i2l X161.here hx rfl (hb hby at_336) rfl ?_
          refine XS.iload X161.here hx rfl (hb hby at_337) rfl ?_
          refine XT.i2l X161.here hx rfl (hb hby at_339) rfl ?_
          refine XT.lconstV X161.here hx rfl (1 : Int64) (hb hby at_340) (by decide) ?_
          refine XT.ladd X161.here hx rfl (hb hby at_341) rfl ?_
          refine XT.lrem X161.here hx rfl (hb hby at_342) rfl (own_lnz (own_ppos p3)) ?_
          show oS p e below T161 (mkF m 343 #[iv p0, iv p1, iv p2, iv p3, iv 0, rv aE, iv (own_m p0), iv ((own_r p1 (own_m p0))), iv ((own_r p2 (own_m p0))), rv b89, rv b96, .val (.double (FP.ddiv (FP.i2d (own_r p1 (own_m p0))) (FP.i2d (own_m p0)))), .second, .val (.double (FP.ddiv (FP.i2d (own_r p2 (own_m p0))) (FP.i2d (own_m p0)))), .second, iv (own_kk p3), iv (own_pp p3), .unset, .unset] [(.long (((own_m p2)).toInt64 - (((own_m p2)).toInt64 / (((own_pp p3)).toInt64 + (1 : Int64))) * (((own_pp p3)).toInt64 + (1 : Int64))))]) _
          refine XT.l2i X161.here hx rfl (hb hby at_343) rfl ?_
          show oS p e below T161 (mkF m 344 #[iv p0, iv p1, iv p2, iv p3, iv 0, rv aE, iv (own_m p0), iv ((own_r p1 (own_m p0))), iv ((own_r p2 (own_m p0))), rv b89, rv b96, .val (.double (FP.ddiv (FP.i2d (own_r p1 (own_m p0))) (FP.i2d (own_m p0)))), .second, .val (.double (FP.ddiv (FP.i2d (own_r p2 (own_m p0))) (FP.i2d (own_m p0)))), .second, iv (own_kk p3), iv (own_pp p3), .unset, .unset] [(.int ((((own_m p2)).toInt64 - (((own_m p2)).toInt64 / (((own_pp p3)).toInt64 + (1 : Int64))) * (((own_pp p3)).toInt64 + (1 : Int64)))).toInt32)]) _
          skip
          show oS p e below T161 (mkF m 344 #[iv p0, iv p1, iv p2, iv p3, iv 0, rv aE, iv (own_m p0), iv ((own_r p1 (own_m p0))), iv ((own_r p2 (own_m p0))), rv b89, rv b96, .val (.double (FP.ddiv (FP.i2d (own_r p1 (own_m p0))) (FP.i2d (own_m p0)))), .second, .val (.double (FP.ddiv (FP.i2d (own_r p2 (own_m p0))) (FP.i2d (own_m p0)))), .second, iv (own_kk p3), iv (own_pp p3), .unset, .unset] [(.int (own_r p2 (own_pp p3)))]) _
          refine XS.istore X161.here hx rfl (hb hby at_344) rfl (l' := #[iv p0, iv p1, iv p2, iv p3, iv 0, rv aE, iv (own_m p0), iv ((own_r p1 (own_m p0))), iv ((own_r p2 (own_m p0))), rv b89, rv b96, .val (.double (FP.ddiv (FP.i2d (own_r p1 (own_m p0))) (FP.i2d (own_m p0)))), .second, .val (.double (FP.ddiv (FP.i2d (own_r p2 (own_m p0))) (FP.i2d (own_m p0)))), .second, iv (own_kk p3), iv (own_pp p3), iv ((own_r p2 (own_pp p3))), .unset]) rfl ?_
          refine XS.iload X161.here hx rfl (hb hby at_346) rfl ?_
          refine XS.iload X161.here hx rfl (hb hby at_348) rfl ?_
          refine st162 _ ?_
          refine st170 _ ?_
          refine XS.astore X170.here hx rfl (hb hby at_356) rfl rfl (l' := #[iv p0, iv p1, iv p2, iv p3, iv 0, rv aE, iv (own_m p0), iv ((own_r p1 (own_m p0))), iv ((own_r p2 (own_m p0))), rv b89, rv b96, .val (.double (FP.ddiv (FP.i2d (own_r p1 (own_m p0))) (FP.i2d (own_m p0)))), .second, .val (.double (FP.ddiv (FP.i2d (own_r p2 (own_m p0))) (FP.i2d (own_m p0)))), .second, iv (own_kk p3), iv (own_pp p3), iv ((own_r p2 (own_pp p3))), rv b170]) rfl ?_
          refine XS.aload X170.here hx rfl (hb hby at_358) rfl rfl ?_
          refine st179 _ ?_
          show oS p e below T179 (mkF m 363 #[iv p0, iv p1, iv p2, iv p3, iv 0, rv aE, iv (own_m p0), iv ((own_r p1 (own_m p0))), iv ((own_r p2 (own_m p0))), rv b89, rv b96, .val (.double (FP.ddiv (FP.i2d (own_r p1 (own_m p0))) (FP.i2d (own_m p0)))), .second, .val (.double (FP.ddiv (FP.i2d (own_r p2 (own_m p0))) (FP.i2d (own_m p0)))), .second, iv (own_kk p3), iv (own_pp p3), iv ((own_r p2 (own_pp p3))), rv b170] [(.int 1)]) _
          refine XS.ifYes X179.here hx rfl (pc0 := 363) (pc' := 368) rfl (hb hby at_363) rfl (XT.i0_ne_t (by decide)) (by decide) (by decide) ?_
          refine XS.aload X179.here hx rfl (hb hby at_368) rfl rfl ?_
          refine st180 _ ?_
          refine XS.iload X180.here hx rfl (hb hby at_373) rfl ?_
          refine XS.i2dS X180.here hx rfl (hb hby at_375) rfl rfl ?_
          refine XS.dmulS X180.here hx rfl (hb hby at_376) rfl (Jvm.Free.Fl.val64_no.mpr (Own.own_nnI (own_bk p2 p3))) rfl ?_
          refine XS.iload X180.here hx rfl (hb hby at_377) rfl ?_
          refine XS.i2dS X180.here hx rfl (hb hby at_379) rfl rfl ?_
          refine XS.dcmpS X180.here hx rfl (hb hby at_380) rfl rfl ?_
          refine XS.ifNo X180.here hx rfl (hb hby at_381) rfl (XT.i0_ne_f (own_e0 (Own.own_cmpI (own_bk p2 p3) (Jvm.FP.Core.i2d_int _)))) ?_
          show oS p e below T180 (mkF m 384 #[iv p0, iv p1, iv p2, iv p3, iv 0, rv aE, iv (own_m p0), iv ((own_r p1 (own_m p0))), iv ((own_r p2 (own_m p0))), rv b89, rv b96, .val (.double (FP.ddiv (FP.i2d (own_r p1 (own_m p0))) (FP.i2d (own_m p0)))), .second, .val (.double (FP.ddiv (FP.i2d (own_r p2 (own_m p0))) (FP.i2d (own_m p0)))), .second, iv (own_kk p3), iv (own_pp p3), iv ((own_r p2 (own_pp p3))), rv b170] []) _
          refine XT.iconstV X180.here hx rfl (1 : Int32) (hb hby at_384) (by decide) ?_
          refine XS.goto X180.here hx rfl (pc0 := 385) (pc' := 389) rfl (hb hby at_385) (by decide) (by decide) ?_
          exact kz)
        obtain ⟨fs, hr, hrun, hended, hW, hsame⟩ := X180.leave (v := some (.int 1)) (fun h => by rw [Bd.returns] at h; cases h)
        refine ⟨_, _, pre0 _ (S181 _ ?_), hrun, hended, _, _, rfl, ?_, ⟨_, rfl⟩, hW, hsame.mono (by decide) (by decide)⟩
        · exact retN X180 hx (t := .boolean) Bd.returns (by simp) (hb hby at_389) hr
        · show Qrm0 Z p0 p1 p2 p3 aE h0 n0 _ T180.heap _
          rw [e180]
          exact ⟨rfl, N180⟩
  · have S182 : ∀ tz, oS p e below s₁ (mkF m 13 #[iv p0, iv p1, iv p2, iv p3, iv p0, .unset, .unset, .unset, .unset, .unset, .unset, .unset, .unset, .unset, .unset, .unset, .unset, .unset, .unset] []) tz → oS p e below s₁ (mkF m 0 #[iv p0, iv p1, iv p2, iv p3, .unset, .unset, .unset, .unset, .unset, .unset, .unset, .unset, .unset, .unset, .unset, .unset, .unset, .unset, .unset] []) tz := fun tz kz => S1 tz (by
      show oS p e below s₁ (mkF m 3 #[iv p0, iv p1, iv p2, iv p3, .unset, .unset, .unset, .unset, .unset, .unset, .unset, .unset, .unset, .unset, .unset, .unset, .unset, .unset, .unset] [(.int (p3 &&& (1 : Int32)))]) _
      refine XS.ifYes X0.here hx rfl (pc0 := 3) (pc' := 10) rfl (hb hby at_3) rfl (XT.i0_ne_t hc3_2) (by decide) (by decide) ?_
      refine XS.iloadN X0.here hx rfl (hb hby at_10) rfl ?_
      refine XS.istore X0.here hx rfl (hb hby at_11) rfl (l' := #[iv p0, iv p1, iv p2, iv p3, iv p0, .unset, .unset, .unset, .unset, .unset, .unset, .unset, .unset, .unset, .unset, .unset, .unset, .unset, .unset]) rfl ?_
      exact kz)
    by_cases hf13_183 : p0 = (0 : Int32)
    · obtain ⟨_, T184, Lc184, X184, hQ184, st184⟩ := own_callS (W := 0) (y := mN7) X0 hx hZ hown (hw _ (own_w 0 rfl)) (hw _ (own_w 1 rfl)) (hw _ (own_w 2 rfl)) (hw _ (own_w 3 rfl)) (by decide) (rmMk l Z av0 hw [] p0 p1 h0 n0 Z0 ) (by decide) (by decide) (g := (mkF m 16 #[iv p0, iv p1, iv p2, iv p3, iv p0, .unset, .unset, .unset, .unset, .unset, .unset, .unset, .unset, .unset, .unset, .unset, .unset, .unset, .unset] [(.int p1), (.int p0)])) rfl (by rw [hml]; rfl) (argsL := [(.int p0), (.int p1)]) (rest := []) (lenOf pd__II_Lcom_example_graftwork_graftwork_simulate_Summary_ rfl) rfl (hb hby at_16) rfl e0 (by decide : 0 + 1 ≤ _) (by decide : 0 + 8 ≤ _)
      obtain ⟨b184, rfl, N184q, gb184, K184, E184, Fa184, Fc184⟩ := hQ184
      have N184 := Fr.app N0 N184q
      have e184 : T184.heap = T184.heap := rfl
      have ne_aE_b184 : aE ≠ b184 := Nat.ne_of_lt (Nat.lt_of_lt_of_le hEE.lt gb184)
      have ge_b184 : n0 ≤ b184 := Nat.le_trans Z0 gb184
      have sz_b184 : h0.size ≤ b184 := gb184
      have Zk184 : n0 ≤ T184.heap.size := Nat.le_trans Z0 K184.1
      have Kk184 : Keep h0 T184.heap [] := (Keep.refl h0 []).trans K184 all0
      have f185 := (own_stak hSE K184 all0)
      obtain ⟨_, T186, Lc186, X186, hQ186, st186⟩ := own_virtual (W := 0) (y := mN8) (z := mN8) X184 hx hZ hown (hw _ (own_w 34 rfl)) (hw _ (own_w 35 rfl)) (notFace_of_selects (args := #[]) (mvT hZ (hw _ (own_w 37 rfl)))) (hw _ (own_w 37 rfl)) (hw _ (own_w 36 rfl)) (hw _ (own_w 38 rfl)) (hw _ (own_w 6 rfl)) (by decide) (rmRatE l Z av0 hw [] b184 p0 p1 aE T184.heap n0 Zk184 Fa184 Fc184 hf13_183 f185) (by decide) (by decide) E184 (g := (mkF m 19 #[iv p0, iv p1, iv p2, iv p3, iv p0, .unset, .unset, .unset, .unset, .unset, .unset, .unset, .unset, .unset, .unset, .unset, .unset, .unset, .unset] [(.ref b184)])) rfl (by rw [hml]; rfl) (argsL := []) (rest := []) (lenOf pd__Ljava_util_OptionalDouble_ rfl) rfl (hb hby at_19) rfl e184 (by decide : 1 + 0 ≤ _) (by decide : 8 + 0 ≤ _)
      obtain ⟨rfl, N186q, hh186⟩ := hQ186
      have N186 := Fr.app N184 N186q
      have e186 : T186.heap = T184.heap := hh186
      have f187 := (hFE.keep K184 nin0)
      have f189 := (hEE.keep K184)
      obtain ⟨_, T188, Lc188, X188, hQ188, st188⟩ := own_virtual (W := 0) (y := mN3) (z := mN3) X186 hx hZ hown (hw _ (own_w 44 rfl)) (hw _ (own_w 45 rfl)) (notFace_of_selects (args := #[]) (mvT hZ (hw _ (own_w 47 rfl)))) (hw _ (own_w 47 rfl)) (hw _ (own_w 46 rfl)) (hw _ (own_w 48 rfl)) (hw _ (own_w 41 rfl)) (by decide) (rmIs0 l Z av0 hw [] aE T184.heap n0 Zk184 f187) (by decide) (by decide) f189 (g := (mkF m 26 #[iv p0, iv p1, iv p2, iv p3, iv p0, rv aE, .unset, .unset, .unset, .unset, .unset, .unset, .unset, .unset, .unset, .unset, .unset, .unset, .unset] [(.ref aE)])) rfl (by rw [hml]; rfl) (argsL := []) (rest := []) (lenOf pd__Z rfl) rfl (hb hby at_26) rfl e186 (by decide : 1 + 0 ≤ _) (by decide : 8 + 0 ≤ _)
      obtain ⟨rfl, N188q, hh188⟩ := hQ188
      have N188 := Fr.app N186 N188q
      have e188 : T188.heap = T184.heap := hh188
      obtain ⟨_, T190, Lc190, X190, hQ190, st190⟩ := own_callS (W := 0) (y := mN7) X188 hx hZ hown (hw _ (own_w 0 rfl)) (hw _ (own_w 1 rfl)) (hw _ (own_w 2 rfl)) (hw _ (own_w 3 rfl)) (by decide) (rmMk l Z av0 hw [] own_o (own_r p1 own_o) T184.heap n0 Zk184 ) (by decide) (by decide) (g := (mkF m 90 #[iv p0, iv p1, iv p2, iv p3, iv p0, rv aE, iv own_o, iv (own_r p1 own_o), iv (own_r p2 own_o), .unset, .unset, .unset, .unset, .unset, .unset, .unset, .unset, .unset, .unset] [(.int (own_r p1 own_o)), (.int own_o)])) rfl (by rw [hml]; rfl) (argsL := [(.int own_o), (.int (own_r p1 own_o))]) (rest := []) (lenOf pd__II_Lcom_example_graftwork_graftwork_simulate_Summary_ rfl) rfl (hb hby at_90) rfl e188 (by decide : 1 + 1 ≤ _) (by decide : 8 + 8 ≤ _)
      obtain ⟨b190, rfl, N190q, gb190, K190, E190, Fa190, Fc190⟩ := hQ190
      have N190 := Fr.app N188 N190q
      have e190 : T190.heap = T190.heap := rfl
      have ne_aE_b190 : aE ≠ b190 := Nat.ne_of_lt (Nat.lt_of_lt_of_le f189.lt gb190)
      have ne_b184_b190 : b184 ≠ b190 := Nat.ne_of_lt (Nat.lt_of_lt_of_le E184.lt gb190)
      have ge_b190 : n0 ≤ b190 := Nat.le_trans Zk184 gb190
      have sz_b190 : h0.size ≤ b190 := Nat.le_trans Kk184.1 gb190
      have Zk190 : n0 ≤ T190.heap.size := Nat.le_trans Zk184 K190.1
      have Kk190 : Keep h0 T190.heap [] := Kk184.trans K190 all0
      obtain ⟨_, T191, Lc191, X191, hQ191, st191⟩ := own_virtual (W := 0) (y := mN8) (z := mN8) X190 hx hZ hown (hw _ (own_w 34 rfl)) (hw _ (own_w 35 rfl)) (notFace_of_selects (args := #[]) (mvT hZ (hw _ (own_w 37 rfl)))) (hw _ (own_w 37 rfl)) (hw _ (own_w 36 rfl)) (hw _ (own_w 38 rfl)) (hw _ (own_w 6 rfl)) (by decide) (rmRatP l Z av0 hw [] b190 own_o (own_r p1 own_o) T190.heap n0 Zk190 Fa190 Fc190 (own_pnz own_opos)) (by decide) (by decide) E190 (g := (mkF m 93 #[iv p0, iv p1, iv p2, iv p3, iv p0, rv aE, iv own_o, iv (own_r p1 own_o), iv (own_r p2 own_o), .unset, .unset, .unset, .unset, .unset, .unset, .unset, .unset, .unset, .unset] [(.ref b190)])) rfl (by rw [hml]; rfl) (argsL := []) (rest := []) (lenOf pd__Ljava_util_OptionalDouble_ rfl) rfl (hb hby at_93) rfl e190 (by decide : 2 + 1 ≤ _) (by decide : 16 + 2 ≤ _)
      obtain ⟨b191, rfl, N191q, gb191, K191, E191, I191, V191⟩ := hQ191
      have N191 := Fr.app N190 N191q
      have e191 : T191.heap = T191.heap := rfl
      have f192 := (f189.keep K190)
      have ne_aE_b191 : aE ≠ b191 := Nat.ne_of_lt (Nat.lt_of_lt_of_le f192.lt gb191)
      have f193 := (E184.keep K190)
      have ne_b184_b191 : b184 ≠ b191 := Nat.ne_of_lt (Nat.lt_of_lt_of_le f193.lt gb191)
      have ne_b190_b191 : b190 ≠ b191 := Nat.ne_of_lt (Nat.lt_of_lt_of_le E190.lt gb191)
      have ge_b191 : n0 ≤ b191 := Nat.le_trans Zk190 gb191
      have sz_b191 : h0.size ≤ b191 := Nat.le_trans Kk190.1 gb191
      have Zk191 : n0 ≤ T191.heap.size := Nat.le_trans Zk190 K191.1
      have Kk191 : Keep h0 T191.heap [] := Kk190.trans K191 all0
      obtain ⟨_, T194, Lc194, X194, hQ194, st194⟩ := own_callS (W := 0) (y := mN7) X191 hx hZ hown (hw _ (own_w 0 rfl)) (hw _ (own_w 1 rfl)) (hw _ (own_w 2 rfl)) (hw _ (own_w 3 rfl)) (by decide) (rmMk l Z av0 hw [] own_o (own_r p2 own_o) T191.heap n0 Zk191 ) (by decide) (by decide) (g := (mkF m 102 #[iv p0, iv p1, iv p2, iv p3, iv p0, rv aE, iv own_o, iv (own_r p1 own_o), iv (own_r p2 own_o), rv b191, .unset, .unset, .unset, .unset, .unset, .unset, .unset, .unset, .unset] [(.int (own_r p2 own_o)), (.int own_o)])) rfl (by rw [hml]; rfl) (argsL := [(.int own_o), (.int (own_r p2 own_o))]) (rest := []) (lenOf pd__II_Lcom_example_graftwork_graftwork_simulate_Summary_ rfl) rfl (hb hby at_102) rfl e191 (by decide : 3 + 1 ≤ _) (by decide : 18 + 8 ≤ _)
      obtain ⟨b194, rfl, N194q, gb194, K194, E194, Fa194, Fc194⟩ := hQ194
      have N194 := Fr.app N191 N194q
      have e194 : T194.heap = T194.heap := rfl
      have f195 := (f192.keep K191)
      have ne_aE_b194 : aE ≠ b194 := Nat.ne_of_lt (Nat.lt_of_lt_of_le f195.lt gb194)
      have f196 := (f193.keep K191)
      have ne_b184_b194 : b184 ≠ b194 := Nat.ne_of_lt (Nat.lt_of_lt_of_le f196.lt gb194)
      have f197 := (E190.keep K191)
      have ne_b190_b194 : b190 ≠ b194 := Nat.ne_of_lt (Nat.lt_of_lt_of_le f197.lt gb194)
      have ne_b191_b194 : b191 ≠ b194 := Nat.ne_of_lt (Nat.lt_of_lt_of_le E191.lt gb194)
      have ge_b194 : n0 ≤ b194 := Nat.le_trans Zk191 gb194
      have sz_b194 : h0.size ≤ b194 := Nat.le_trans Kk191.1 gb194
      have Zk194 : n0 ≤ T194.heap.size := Nat.le_trans Zk191 K194.1
      have Kk194 : Keep h0 T194.heap [] := Kk191.trans K194 all0
      obtain ⟨_, T198, Lc198, X198, hQ198, st198⟩ := own_virtual (W := 0) (y := mN8) (z := mN8) X194 hx hZ hown (hw _ (own_w 34 rfl)) (hw _ (own_w 35 rfl)) (notFace_of_selects (args := #[]) (mvT hZ (hw _ (own_w 37 rfl)))) (hw _ (own_w 37 rfl)) (hw _ (own_w 36 rfl)) (hw _ (own_w 38 rfl)) (hw _ (own_w 6 rfl)) (by decide) (rmRatP l Z av0 hw [] b194 own_o (own_r p2 own_o) T194.heap n0 Zk194 Fa194 Fc194 (own_pnz own_opos)) (by decide) (by decide) E194 (g := (mkF m 105 #[iv p0, iv p1, iv p2, iv p3, iv p0, rv aE, iv own_o, iv (own_r p1 own_o), iv (own_r p2 own_o), rv b191, .unset, .unset, .unset, .unset, .unset, .unset, .unset, .unset, .unset] [(.ref b194)])) rfl (by rw [hml]; rfl) (argsL := []) (rest := []) (lenOf pd__Ljava_util_OptionalDouble_ rfl) rfl (hb hby at_105) rfl e194 (by decide : 4 + 1 ≤ _) (by decide : 26 + 2 ≤ _)
      obtain ⟨b198, rfl, N198q, gb198, K198, E198, I198, V198⟩ := hQ198
      have N198 := Fr.app N194 N198q
      have e198 : T198.heap = T198.heap := rfl
      have f199 := (f195.keep K194)
      have ne_aE_b198 : aE ≠ b198 := Nat.ne_of_lt (Nat.lt_of_lt_of_le f199.lt gb198)
      have f200 := (f196.keep K194)
      have ne_b184_b198 : b184 ≠ b198 := Nat.ne_of_lt (Nat.lt_of_lt_of_le f200.lt gb198)
      have f201 := (f197.keep K194)
      have ne_b190_b198 : b190 ≠ b198 := Nat.ne_of_lt (Nat.lt_of_lt_of_le f201.lt gb198)
      have f202 := (E191.keep K194)
      have ne_b191_b198 : b191 ≠ b198 := Nat.ne_of_lt (Nat.lt_of_lt_of_le f202.lt gb198)
      have ne_b194_b198 : b194 ≠ b198 := Nat.ne_of_lt (Nat.lt_of_lt_of_le E194.lt gb198)
      have ge_b198 : n0 ≤ b198 := Nat.le_trans Zk194 gb198
      have sz_b198 : h0.size ≤ b198 := Nat.le_trans Kk194.1 gb198
      have Zk198 : n0 ≤ T198.heap.size := Nat.le_trans Zk194 K198.1
      have Kk198 : Keep h0 T198.heap [] := Kk194.trans K198 all0
      have f203 := ((I191.keep K194 nin0).keep K198 nin0)
      have f205 := (f202.keep K198)
      obtain ⟨_, T204, Lc204, X204, hQ204, st204⟩ := own_virtual (W := 0) (y := mN3) (z := mN3) X198 hx hZ hown (hw _ (own_w 44 rfl)) (hw _ (own_w 45 rfl)) (notFace_of_selects (args := #[]) (mvT hZ (hw _ (own_w 47 rfl)))) (hw _ (own_w 47 rfl)) (hw _ (own_w 46 rfl)) (hw _ (own_w 48 rfl)) (hw _ (own_w 41 rfl)) (by decide) (rmIs1 l Z av0 hw [] b191 T198.heap n0 Zk198 f203) (by decide) (by decide) f205 (g := (mkF m 112 #[iv p0, iv p1, iv p2, iv p3, iv p0, rv aE, iv own_o, iv (own_r p1 own_o), iv (own_r p2 own_o), rv b191, rv b198, .unset, .unset, .unset, .unset, .unset, .unset, .unset, .unset] [(.ref b191)])) rfl (by rw [hml]; rfl) (argsL := []) (rest := []) (lenOf pd__Z rfl) rfl (hb hby at_112) rfl e198 (by decide : 5 + 0 ≤ _) (by decide : 28 + 0 ≤ _)
      obtain ⟨rfl, N204q, hh204⟩ := hQ204
      have N204 := Fr.app N198 N204q
      have e204 : T204.heap = T198.heap := hh204
      obtain ⟨_, T206, Lc206, X206, hQ206, st206⟩ := own_virtual (W := 0) (y := mN3) (z := mN3) X204 hx hZ hown (hw _ (own_w 44 rfl)) (hw _ (own_w 45 rfl)) (notFace_of_selects (args := #[]) (mvT hZ (hw _ (own_w 47 rfl)))) (hw _ (own_w 47 rfl)) (hw _ (own_w 46 rfl)) (hw _ (own_w 48 rfl)) (hw _ (own_w 41 rfl)) (by decide) (rmIs1 l Z av0 hw [] b198 T198.heap n0 Zk198 I198) (by decide) (by decide) E198 (g := (mkF m 120 #[iv p0, iv p1, iv p2, iv p3, iv p0, rv aE, iv own_o, iv (own_r p1 own_o), iv (own_r p2 own_o), rv b191, rv b198, .unset, .unset, .unset, .unset, .unset, .unset, .unset, .unset] [(.ref b198)])) rfl (by rw [hml]; rfl) (argsL := []) (rest := []) (lenOf pd__Z rfl) rfl (hb hby at_120) rfl e204 (by decide : 5 + 0 ≤ _) (by decide : 28 + 0 ≤ _)
      obtain ⟨rfl, N206q, hh206⟩ := hQ206
      have N206 := Fr.app N204 N206q
      have e206 : T206.heap = T198.heap := hh206
      have f207 := ((V191.keep K194 nin0).keep K198 nin0)
      obtain ⟨_, T208, Lc208, X208, hQ208, st208⟩ := own_virtual (W := 0) (y := mN4) (z := mN4) X206 hx hZ hown (hw _ (own_w 64 rfl)) (hw _ (own_w 65 rfl)) (notFace_of_selects (args := #[]) (mvT hZ (hw _ (own_w 67 rfl)))) (hw _ (own_w 67 rfl)) (hw _ (own_w 66 rfl)) (hw _ (own_w 68 rfl)) (hw _ (own_w 41 rfl)) (by decide) (rmGet l Z av0 hw [] b191 (FP.ddiv (FP.i2d (own_r p1 own_o)) (FP.i2d own_o)) T198.heap n0 Zk198 f203 f207) (by decide) (by decide) f205 (g := (mkF m 130 #[iv p0, iv p1, iv p2, iv p3, iv p0, rv aE, iv own_o, iv (own_r p1 own_o), iv (own_r p2 own_o), rv b191, rv b198, .unset, .unset, .unset, .unset, .unset, .unset, .unset, .unset] [(.ref b191)])) rfl (by rw [hml]; rfl) (argsL := []) (rest := []) (lenOf pd__D rfl) rfl (hb hby at_130) rfl e206 (by decide : 5 + 0 ≤ _) (by decide : 28 + 0 ≤ _)
      obtain ⟨rfl, N208q, hh208⟩ := hQ208
      have N208 := Fr.app N206 N208q
      have e208 : T208.heap = T198.heap := hh208
      obtain ⟨_, T209, Lc209, X209, hQ209, st209⟩ := own_virtual (W := 0) (y := mN4) (z := mN4) X208 hx hZ hown (hw _ (own_w 64 rfl)) (hw _ (own_w 65 rfl)) (notFace_of_selects (args := #[]) (mvT hZ (hw _ (own_w 67 rfl)))) (hw _ (own_w 67 rfl)) (hw _ (own_w 66 rfl)) (hw _ (own_w 68 rfl)) (hw _ (own_w 41 rfl)) (by decide) (rmGet l Z av0 hw [] b198 (FP.ddiv (FP.i2d (own_r p2 own_o)) (FP.i2d own_o)) T198.heap n0 Zk198 I198 V198) (by decide) (by decide) E198 (g := (mkF m 137 #[iv p0, iv p1, iv p2, iv p3, iv p0, rv aE, iv own_o, iv (own_r p1 own_o), iv (own_r p2 own_o), rv b191, rv b198, .val (.double (FP.ddiv (FP.i2d (own_r p1 own_o)) (FP.i2d own_o))), .second, .unset, .unset, .unset, .unset, .unset, .unset] [(.ref b198)])) rfl (by rw [hml]; rfl) (argsL := []) (rest := []) (lenOf pd__D rfl) rfl (hb hby at_137) rfl e208 (by decide : 5 + 0 ≤ _) (by decide : 28 + 0 ≤ _)
      obtain ⟨rfl, N209q, hh209⟩ := hQ209
      have N209 := Fr.app N208 N209q
      have e209 : T209.heap = T198.heap := hh209
      have S210 : ∀ tz, oS p e below T209 (mkF m 142 #[iv p0, iv p1, iv p2, iv p3, iv p0, rv aE, iv own_o, iv (own_r p1 own_o), iv (own_r p2 own_o), rv b191, rv b198, .val (.double (FP.ddiv (FP.i2d (own_r p1 own_o)) (FP.i2d own_o))), .second, .val (.double (FP.ddiv (FP.i2d (own_r p2 own_o)) (FP.i2d own_o))), .second, .unset, .unset, .unset, .unset] []) tz → oS p e below s₁ (mkF m 0 #[iv p0, iv p1, iv p2, iv p3, .unset, .unset, .unset, .unset, .unset, .unset, .unset, .unset, .unset, .unset, .unset, .unset, .unset, .unset, .unset] []) tz := fun tz kz => S182 tz (by
        show oS p e below s₁ (mkF m 13 #[iv p0, iv p1, iv p2, iv p3, iv p0, .unset, .unset, .unset, .unset, .unset, .unset, .unset, .unset, .unset, .unset, .unset, .unset, .unset, .unset] []) _
        refine XS.iload X0.here hx rfl (hb hby at_13) rfl ?_
        refine XS.iloadN X0.here hx rfl (hb hby at_15) rfl ?_
        refine st184 _ ?_
        refine st186 _ ?_
        show oS p e below T186 (mkF m 22 #[iv p0, iv p1, iv p2, iv p3, iv p0, .unset, .unset, .unset, .unset, .unset, .unset, .unset, .unset, .unset, .unset, .unset, .unset, .unset, .unset] [(.ref aE)]) _
        refine XS.astore X186.here hx rfl (hb hby at_22) rfl rfl (l' := #[iv p0, iv p1, iv p2, iv p3, iv p0, rv aE, .unset, .unset, .unset, .unset, .unset, .unset, .unset, .unset, .unset, .unset, .unset, .unset, .unset]) rfl ?_
        refine XS.aload X186.here hx rfl (hb hby at_24) rfl rfl ?_
        refine st188 _ ?_
        refine XS.iload X188.here hx rfl (hb hby at_29) rfl ?_
        refine XS.ifYes X188.here hx rfl (pc0 := 31) (pc' := 38) rfl (hb hby at_31) rfl (XT.i0_eq_t hf13_183) (by decide) (by decide) ?_
        refine XT.iconstV X188.here hx rfl (0 : Int32) (hb hby at_38) (by decide) ?_
        refine XS.icmpYes X188.here hx rfl (pc0 := 39) (pc' := 44) rfl (hb hby at_39) rfl (XT.ii_eq_t (by decide)) (by decide) (by decide) ?_
        refine XS.iloadN X188.here hx rfl (hb hby at_44) rfl ?_
        refine X188.ldcI hx hown (mvT hZ (hw _ (own_w 51 rfl))) rfl (hb hby at_45) ?_
        refine XS.iand X188.here hx rfl (hb hby at_47) rfl ?_
        show oS p e below T188 (mkF m 48 #[iv p0, iv p1, iv p2, iv p3, iv p0, rv aE, .unset, .unset, .unset, .unset, .unset, .unset, .unset, .unset, .unset, .unset, .unset, .unset, .unset] [(.int (p0 &&& (2147483647 : Int32)))]) _
        show oS p e below T188 (mkF m 48 #[iv p0, iv p1, iv p2, iv p3, iv p0, rv aE, .unset, .unset, .unset, .unset, .unset, .unset, .unset, .unset, .unset, .unset, .unset, .unset, .unset] [(.int (p0 &&& (2147483647 : Int32)))]) _
        skip
        show oS p e below T188 (mkF m 48 #[iv p0, iv p1, iv p2, iv p3, iv p0, rv aE, .unset, .unset, .unset, .unset, .unset, .unset, .unset, .unset, .unset, .unset, .unset, .unset, .unset] [(.int (own_m p0))]) _
        refine XS.istore X188.here hx rfl (hb hby at_48) rfl (l' := #[iv p0, iv p1, iv p2, iv p3, iv p0, rv aE, iv (own_m p0), .unset, .unset, .unset, .unset, .unset, .unset, .unset, .unset, .unset, .unset, .unset, .unset]) rfl ?_
        refine XS.iload X188.here hx rfl (hb hby at_50) rfl ?_
        refine XS.ifNo X188.here hx rfl (hb hby at_52) rfl (XT.i0_ne_f (by rw [hf13_183]; decide)) ?_
        refine XT.iconstV X188.here hx rfl (1 : Int32) (hb hby at_55) (by decide) ?_
        show oS p e below T188 (mkF m 56 #[iv p0, iv p1, iv p2, iv p3, iv p0, rv aE, iv (own_m p0), .unset, .unset, .unset, .unset, .unset, .unset, .unset, .unset, .unset, .unset, .unset, .unset] [(.int 1)]) _
        skip
        show oS p e below T188 (mkF m 56 #[iv p0, iv p1, iv p2, iv p3, iv p0, rv aE, iv (own_m p0), .unset, .unset, .unset, .unset, .unset, .unset, .unset, .unset, .unset, .unset, .unset, .unset] [(.int own_o)]) _
        refine XS.istore X188.here hx rfl (hb hby at_56) rfl (l' := #[iv p0, iv p1, iv p2, iv p3, iv p0, rv aE, iv own_o, .unset, .unset, .unset, .unset, .unset, .unset, .unset, .unset, .unset, .unset, .unset, .unset]) rfl ?_
        refine XS.iloadN X188.here hx rfl (hb hby at_58) rfl ?_
        refine X188.ldcI hx hown (mvT hZ (hw _ (own_w 51 rfl))) rfl (hb hby at_59) ?_
        refine XS.iand X188.here hx rfl (hb hby at_61) rfl ?_
        show oS p e below T188 (mkF m 62 #[iv p0, iv p1, iv p2, iv p3, iv p0, rv aE, iv own_o, .unset, .unset, .unset, .unset, .unset, .unset, .unset, .unset, .unset, .unset, .unset, .unset] [(.int (p1 &&& (2147483647 : Int32)))]) _
        show oS p e below T188 (mkF m 62 #[iv p0, iv p1, iv p2, iv p3, iv p0, rv aE, iv own_o, .unset, .unset, .unset, .unset, .unset, .unset, .unset, .unset, .unset, .unset, .unset, .unset] [(.int (p1 &&& (2147483647 : Int32)))]) _
        skip
        show oS p e below T188 (mkF m 62 #[iv p0, iv p1, iv p2, iv p3, iv p0, rv aE, iv own_o, .unset, .unset, .unset, .unset, .unset, .unset, .unset, .unset, .unset, .unset, .unset, .unset] [(.int (own_m p1))]) _
        refine XT.i2l X188.here hx rfl (hb hby at_62) rfl ?_
        refine XS.iload X188.here hx rfl (hb hby at_63) rfl ?_
        refine XT.i2l X188.here hx rfl (hb hby at_65) rfl ?_
        refine XT.lconstV X188.here hx rfl (1 : Int64) (hb hby at_66) (by decide) ?_
        refine XT.ladd X188.here hx rfl (hb hby at_67) rfl ?_
        refine XT.lrem X188.here hx rfl (hb hby at_68) rfl (own_lnz own_opos) ?_
        refine XT.l2i X188.here hx rfl (hb hby at_69) rfl ?_
        show oS p e below T188 (mkF m 70 #[iv p0, iv p1, iv p2, iv p3, iv p0, rv aE, iv own_o, .unset, .unset, .unset, .unset, .unset, .unset, .unset, .unset, .unset, .unset, .unset, .unset] [(.int ((((own_m p1)).toInt64 - (((own_m p1)).toInt64 / ((own_o).toInt64 + (1 : Int64))) * ((own_o).toInt64 + (1 : Int64)))).toInt32)]) _
        skip
        show oS p e below T188 (mkF m 70 #[iv p0, iv p1, iv p2, iv p3, iv p0, rv aE, iv own_o, .unset, .unset, .unset, .unset, .unset, .unset, .unset, .unset, .unset, .unset, .unset, .unset] [(.int (own_r p1 own_o))]) _
        refine XS.istore X188.here hx rfl (hb hby at_70) rfl (l' := #[iv p0, iv p1, iv p2, iv p3, iv p0, rv aE, iv own_o, iv (own_r p1 own_o), .unset, .unset, .unset, .unset, .unset, .unset, .unset, .unset, .unset, .unset, .unset]) rfl ?_
        show oS p e below T188 (mkF m 72 #[iv p0, iv p1, iv p2, iv p3, iv p0, rv aE, iv own_o, iv (own_r p1 own_o), .unset, .unset, .unset, .unset, .unset, .unset, .unset, .unset, .unset, .unset, .unset] []) _
        refine XS.iloadN X188.here hx rfl (hb hby at_72) rfl ?_
        refine X188.ldcI hx hown (mvT hZ (hw _ (own_w 51 rfl))) rfl (hb hby at_73) ?_
        refine XS.iand X188.here hx rfl (hb hby at_75) rfl ?_
        show oS p e below T188 (mkF m 76 #[iv p0, iv p1, iv p2, iv p3, iv p0, rv aE, iv own_o, iv (own_r p1 own_o), .unset, .unset, .unset, .unset, .unset, .unset, .unset, .unset, .unset, .unset, .unset] [(.int (p2 &&& (2147483647 : Int32)))]) _
        skip
        show oS p e below T188 (mkF m 76 #[iv p0, iv p1, iv p2, iv p3, iv p0, rv aE, iv own_o, iv (own_r p1 own_o), .unset, .unset, .unset, .unset, .unset, .unset, .unset, .unset, .unset, .unset, .unset] [(.int (own_m p2))]) _
        refine XT.i2l X188.here hx rfl (hb hby at_76) rfl ?_
        refine XS.iload X188.here hx rfl (hb hby at_77) rfl ?_
        refine XT.i2l X188.here hx rfl (hb hby at_79) rfl ?_
        refine XT.lconstV X188.here hx rfl (1 : Int64) (hb hby at_80) (by decide) ?_
        refine XT.ladd X188.here hx rfl (hb hby at_81) rfl ?_
        refine XT.lrem X188.here hx rfl (hb hby at_82) rfl (own_lnz own_opos) ?_
        show oS p e below T188 (mkF m 83 #[iv p0, iv p1, iv p2, iv p3, iv p0, rv aE, iv own_o, iv (own_r p1 own_o), .unset, .unset, .unset, .unset, .unset, .unset, .unset, .unset, .unset, .unset, .unset] [(.long (((own_m p2)).toInt64 - (((own_m p2)).toInt64 / ((own_o).toInt64 + (1 : Int64))) * ((own_o).toInt64 + (1 : Int64))))]) _
        refine XT.l2i X188.here hx rfl (hb hby at_83) rfl ?_
        show oS p e below T188 (mkF m 84 #[iv p0, iv p1, iv p2, iv p3, iv p0, rv aE, iv own_o, iv (own_r p1 own_o), .unset, .unset, .unset, .unset, .unset, .unset, .unset, .unset, .unset, .unset, .unset] [(.int ((((own_m p2)).toInt64 - (((own_m p2)).toInt64 / ((own_o).toInt64 + (1 : Int64))) * ((own_o).toInt64 + (1 : Int64)))).toInt32)]) _
        skip
        show oS p e below T188 (mkF m 84 #[iv p0, iv p1, iv p2, iv p3, iv p0, rv aE, iv own_o, iv (own_r p1 own_o), .unset, .unset, .unset, .unset, .unset, .unset, .unset, .unset, .unset, .unset, .unset] [(.int (own_r p2 own_o))]) _
        refine XS.istore X188.here hx rfl (hb hby at_84) rfl (l' := #[iv p0, iv p1, iv p2, iv p3, iv p0, rv aE, iv own_o, iv (own_r p1 own_o), iv (own_r p2 own_o), .unset, .unset, .unset, .unset, .unset, .unset, .unset, .unset, .unset, .unset]) rfl ?_
        refine XS.iload X188.here hx rfl (hb hby at_86) rfl ?_
        refine XS.iload X188.here hx rfl (hb hby at_88) rfl ?_
        refine st190 _ ?_
        refine st191 _ ?_
        refine XS.astore X191.here hx rfl (hb hby at_96) rfl rfl (l' := #[iv p0, iv p1, iv p2, iv p3, iv p0, rv aE, iv own_o, iv (own_r p1 own_o), iv (own_r p2 own_o), rv b191, .unset, .unset, .unset, .unset, .unset, .unset, .unset, .unset, .unset]) rfl ?_
        refine XS.iload X191.here hx rfl (hb hby at_98) rfl ?_
        refine XS.iload X191.here hx rfl (hb hby at_100) rfl ?_
        show oS p e below T191 (mkF m 102 #[iv p0, iv p1, iv p2, iv p3, iv p0, rv aE, iv own_o, iv (own_r p1 own_o), iv (own_r p2 own_o), rv b191, .unset, .unset, .unset, .unset, .unset, .unset, .unset, .unset, .unset] [(.int (own_r p2 own_o)), (.int own_o)]) _
        refine st194 _ ?_
        refine st198 _ ?_
        refine XS.astore X198.here hx rfl (hb hby at_108) rfl rfl (l' := #[iv p0, iv p1, iv p2, iv p3, iv p0, rv aE, iv own_o, iv (own_r p1 own_o), iv (own_r p2 own_o), rv b191, rv b198, .unset, .unset, .unset, .unset, .unset, .unset, .unset, .unset]) rfl ?_
        refine XS.aload X198.here hx rfl (hb hby at_110) rfl rfl ?_
        refine st204 _ ?_
        refine XS.ifNo X204.here hx rfl (hb hby at_115) rfl (XT.i0_eq_f (by decide)) ?_
        refine XS.aload X204.here hx rfl (hb hby at_118) rfl rfl ?_
        refine st206 _ ?_
        refine XS.ifYes X206.here hx rfl (pc0 := 123) (pc' := 128) rfl (hb hby at_123) rfl (XT.i0_ne_t (by decide)) (by decide) (by decide) ?_
        refine XS.aload X206.here hx rfl (hb hby at_128) rfl rfl ?_
        show oS p e below T206 (mkF m 130 #[iv p0, iv p1, iv p2, iv p3, iv p0, rv aE, iv own_o, iv (own_r p1 own_o), iv (own_r p2 own_o), rv b191, rv b198, .unset, .unset, .unset, .unset, .unset, .unset, .unset, .unset] [(.ref b191)]) _
        refine st208 _ ?_
        refine XS.dstore X208.here hx rfl (hb hby at_133) rfl (l' := #[iv p0, iv p1, iv p2, iv p3, iv p0, rv aE, iv own_o, iv (own_r p1 own_o), iv (own_r p2 own_o), rv b191, rv b198, .val (.double (FP.ddiv (FP.i2d (own_r p1 own_o)) (FP.i2d own_o))), .second, .unset, .unset, .unset, .unset, .unset, .unset]) rfl ?_
        refine XS.aload X208.here hx rfl (hb hby at_135) rfl rfl ?_
        refine st209 _ ?_
        refine XS.dstore X209.here hx rfl (hb hby at_140) rfl (l' := #[iv p0, iv p1, iv p2, iv p3, iv p0, rv aE, iv own_o, iv (own_r p1 own_o), iv (own_r p2 own_o), rv b191, rv b198, .val (.double (FP.ddiv (FP.i2d (own_r p1 own_o)) (FP.i2d own_o))), .second, .val (.double (FP.ddiv (FP.i2d (own_r p2 own_o)) (FP.i2d own_o))), .second, .unset, .unset, .unset, .unset]) rfl ?_
        exact kz)
      have M211 : ∀ tz, oS p e below T209 (mkF m 158 #[iv p0, iv p1, iv p2, iv p3, iv p0, rv aE, iv own_o, iv (own_r p1 own_o), iv (own_r p2 own_o), rv b191, rv b198, .val (.double (FP.ddiv (FP.i2d (own_r p1 own_o)) (FP.i2d own_o))), .second, .val (.double (FP.ddiv (FP.i2d (own_r p2 own_o)) (FP.i2d own_o))), .second, .unset, .unset, .unset, .unset] []) tz → oS p e below T209 (mkF m 142 #[iv p0, iv p1, iv p2, iv p3, iv p0, rv aE, iv own_o, iv (own_r p1 own_o), iv (own_r p2 own_o), rv b191, rv b198, .val (.double (FP.ddiv (FP.i2d (own_r p1 own_o)) (FP.i2d own_o))), .second, .val (.double (FP.ddiv (FP.i2d (own_r p2 own_o)) (FP.i2d own_o))), .second, .unset, .unset, .unset, .unset] []) tz := by
        intro tz kz
        have S212 : ∀ tz, oS p e below T209 (mkF m 158 #[iv p0, iv p1, iv p2, iv p3, iv p0, rv aE, iv own_o, iv (own_r p1 own_o), iv (own_r p2 own_o), rv b191, rv b198, .val (.double (FP.ddiv (FP.i2d (own_r p1 own_o)) (FP.i2d own_o))), .second, .val (.double (FP.ddiv (FP.i2d (own_r p2 own_o)) (FP.i2d own_o))), .second, .unset, .unset, .unset, .unset] []) tz → oS p e below T209 (mkF m 142 #[iv p0, iv p1, iv p2, iv p3, iv p0, rv aE, iv own_o, iv (own_r p1 own_o), iv (own_r p2 own_o), rv b191, rv b198, .val (.double (FP.ddiv (FP.i2d (own_r p1 own_o)) (FP.i2d own_o))), .second, .val (.double (FP.ddiv (FP.i2d (own_r p2 own_o)) (FP.i2d own_o))), .second, .unset, .unset, .unset, .unset] []) tz := fun tz kz => id (by
          show oS p e below T209 (mkF m 142 #[iv p0, iv p1, iv p2, iv p3, iv p0, rv aE, iv own_o, iv (own_r p1 own_o), iv (own_r p2 own_o), rv b191, rv b198, .val (.double (FP.ddiv (FP.i2d (own_r p1 own_o)) (FP.i2d own_o))), .second, .val (.double (FP.ddiv (FP.i2d (own_r p2 own_o)) (FP.i2d own_o))), .second, .unset, .unset, .unset, .unset] []) _
          refine XS.dload X209.here hx rfl (hb hby at_142) rfl ?_
          refine XS.dconst0 X209.here hx rfl (hb hby at_144) rfl ?_
          refine XS.dcmpS X209.here hx rfl (hb hby at_145) rfl rfl ?_
          refine XS.ifNo X209.here hx rfl (hb hby at_146) rfl (XT.i0_lt_f (own_t0 (own_rv p1 own_opos) own_opos)) ?_
          refine XS.dload X209.here hx rfl (hb hby at_149) rfl ?_
          show oS p e below T209 (mkF m 151 #[iv p0, iv p1, iv p2, iv p3, iv p0, rv aE, iv own_o, iv (own_r p1 own_o), iv (own_r p2 own_o), rv b191, rv b198, .val (.double (FP.ddiv (FP.i2d (own_r p1 own_o)) (FP.i2d own_o))), .second, .val (.double (FP.ddiv (FP.i2d (own_r p2 own_o)) (FP.i2d own_o))), .second, .unset, .unset, .unset, .unset] [(.double (FP.ddiv (FP.i2d (own_r p1 own_o)) (FP.i2d own_o)))]) _
          refine XS.dconst1 X209.here hx rfl (hb hby at_151) rfl ?_
          refine XS.dcmpS X209.here hx rfl (hb hby at_152) rfl rfl ?_
          refine XS.ifYes X209.here hx rfl (pc0 := 153) (pc' := 158) rfl (hb hby at_153) rfl (XT.i0_le_t (own_t1 (own_rv p1 own_opos) own_opos)) (by decide) (by decide) ?_
          exact kz)
        exact S212 tz kz
      have S213 : ∀ tz, oS p e below T209 (mkF m 158 #[iv p0, iv p1, iv p2, iv p3, iv p0, rv aE, iv own_o, iv (own_r p1 own_o), iv (own_r p2 own_o), rv b191, rv b198, .val (.double (FP.ddiv (FP.i2d (own_r p1 own_o)) (FP.i2d own_o))), .second, .val (.double (FP.ddiv (FP.i2d (own_r p2 own_o)) (FP.i2d own_o))), .second, .unset, .unset, .unset, .unset] []) tz → oS p e below s₁ (mkF m 0 #[iv p0, iv p1, iv p2, iv p3, .unset, .unset, .unset, .unset, .unset, .unset, .unset, .unset, .unset, .unset, .unset, .unset, .unset, .unset, .unset] []) tz := fun tz kz => S210 tz (by
        show oS p e below T209 (mkF m 142 #[iv p0, iv p1, iv p2, iv p3, iv p0, rv aE, iv own_o, iv (own_r p1 own_o), iv (own_r p2 own_o), rv b191, rv b198, .val (.double (FP.ddiv (FP.i2d (own_r p1 own_o)) (FP.i2d own_o))), .second, .val (.double (FP.ddiv (FP.i2d (own_r p2 own_o)) (FP.i2d own_o))), .second, .unset, .unset, .unset, .unset] []) _
        refine M211 _ ?_
        show oS p e below T209 (mkF m 158 #[iv p0, iv p1, iv p2, iv p3, iv p0, rv aE, iv own_o, iv (own_r p1 own_o), iv (own_r p2 own_o), rv b191, rv b198, .val (.double (FP.ddiv (FP.i2d (own_r p1 own_o)) (FP.i2d own_o))), .second, .val (.double (FP.ddiv (FP.i2d (own_r p2 own_o)) (FP.i2d own_o))), .second, .unset, .unset, .unset, .unset] []) _
        exact kz)
      have M214 : ∀ tz, oS p e below T209 (mkF m 185 #[iv p0, iv p1, iv p2, iv p3, iv p0, rv aE, iv own_o, iv (own_r p1 own_o), iv (own_r p2 own_o), rv b191, rv b198, .val (.double (FP.ddiv (FP.i2d (own_r p1 own_o)) (FP.i2d own_o))), .second, .val (.double (FP.ddiv (FP.i2d (own_r p2 own_o)) (FP.i2d own_o))), .second, .unset, .unset, .unset, .unset] []) tz → oS p e below T209 (mkF m 158 #[iv p0, iv p1, iv p2, iv p3, iv p0, rv aE, iv own_o, iv (own_r p1 own_o), iv (own_r p2 own_o), rv b191, rv b198, .val (.double (FP.ddiv (FP.i2d (own_r p1 own_o)) (FP.i2d own_o))), .second, .val (.double (FP.ddiv (FP.i2d (own_r p2 own_o)) (FP.i2d own_o))), .second, .unset, .unset, .unset, .unset] []) tz := by
        intro tz kz
        by_cases hf158_215 : (own_r p1 own_o) = (0 : Int32)
        · have S216 : ∀ tz, oS p e below T209 (mkF m 185 #[iv p0, iv p1, iv p2, iv p3, iv p0, rv aE, iv own_o, iv (own_r p1 own_o), iv (own_r p2 own_o), rv b191, rv b198, .val (.double (FP.ddiv (FP.i2d (own_r p1 own_o)) (FP.i2d own_o))), .second, .val (.double (FP.ddiv (FP.i2d (own_r p2 own_o)) (FP.i2d own_o))), .second, .unset, .unset, .unset, .unset] []) tz → oS p e below T209 (mkF m 158 #[iv p0, iv p1, iv p2, iv p3, iv p0, rv aE, iv own_o, iv (own_r p1 own_o), iv (own_r p2 own_o), rv b191, rv b198, .val (.double (FP.ddiv (FP.i2d (own_r p1 own_o)) (FP.i2d own_o))), .second, .val (.double (FP.ddiv (FP.i2d (own_r p2 own_o)) (FP.i2d own_o))), .second, .unset, .unset, .unset, .unset] []) tz := fun tz kz => id (by
            show oS p e below T209 (mkF m 158 #[iv p0, iv p1, iv p2, iv p3, iv p0, rv aE, iv own_o, iv (own_r p1 own_o), iv (own_r p2 own_o), rv b191, rv b198, .val (.double (FP.ddiv (FP.i2d (own_r p1 own_o)) (FP.i2d own_o))), .second, .val (.double (FP.ddiv (FP.i2d (own_r p2 own_o)) (FP.i2d own_o))), .second, .unset, .unset, .unset, .unset] []) _
            refine XS.dload X209.here hx rfl (hb hby at_158) rfl ?_
            refine XS.dconst0 X209.here hx rfl (hb hby at_160) rfl ?_
            refine XS.dcmpS X209.here hx rfl (hb hby at_161) rfl rfl ?_
            refine XS.ifNo X209.here hx rfl (hb hby at_162) rfl (XT.i0_ne_f ((own_z0 (own_rv p1 own_opos) own_opos).mpr hf158_215)) ?_
            show oS p e below T209 (mkF m 165 #[iv p0, iv p1, iv p2, iv p3, iv p0, rv aE, iv own_o, iv (own_r p1 own_o), iv (own_r p2 own_o), rv b191, rv b198, .val (.double (FP.ddiv (FP.i2d (own_r p1 own_o)) (FP.i2d own_o))), .second, .val (.double (FP.ddiv (FP.i2d (own_r p2 own_o)) (FP.i2d own_o))), .second, .unset, .unset, .unset, .unset] []) _
            refine XT.iconstV X209.here hx rfl (1 : Int32) (hb hby at_165) (by decide) ?_
            refine XS.goto X209.here hx rfl (pc0 := 166) (pc' := 170) rfl (hb hby at_166) (by decide) (by decide) ?_
            refine XS.iload X209.here hx rfl (hb hby at_170) rfl ?_
            refine XS.ifNo X209.here hx rfl (hb hby at_172) rfl (XT.i0_ne_f hf158_215) ?_
            refine XT.iconstV X209.here hx rfl (1 : Int32) (hb hby at_175) (by decide) ?_
            refine XS.goto X209.here hx rfl (pc0 := 176) (pc' := 180) rfl (hb hby at_176) (by decide) (by decide) ?_
            refine XS.icmpYes X209.here hx rfl (pc0 := 180) (pc' := 185) rfl (hb hby at_180) rfl (XT.ii_eq_t (by decide)) (by decide) (by decide) ?_
            exact kz)
          exact S216 tz kz
        · have S217 : ∀ tz, oS p e below T209 (mkF m 185 #[iv p0, iv p1, iv p2, iv p3, iv p0, rv aE, iv own_o, iv (own_r p1 own_o), iv (own_r p2 own_o), rv b191, rv b198, .val (.double (FP.ddiv (FP.i2d (own_r p1 own_o)) (FP.i2d own_o))), .second, .val (.double (FP.ddiv (FP.i2d (own_r p2 own_o)) (FP.i2d own_o))), .second, .unset, .unset, .unset, .unset] []) tz → oS p e below T209 (mkF m 158 #[iv p0, iv p1, iv p2, iv p3, iv p0, rv aE, iv own_o, iv (own_r p1 own_o), iv (own_r p2 own_o), rv b191, rv b198, .val (.double (FP.ddiv (FP.i2d (own_r p1 own_o)) (FP.i2d own_o))), .second, .val (.double (FP.ddiv (FP.i2d (own_r p2 own_o)) (FP.i2d own_o))), .second, .unset, .unset, .unset, .unset] []) tz := fun tz kz => id (by
            show oS p e below T209 (mkF m 158 #[iv p0, iv p1, iv p2, iv p3, iv p0, rv aE, iv own_o, iv (own_r p1 own_o), iv (own_r p2 own_o), rv b191, rv b198, .val (.double (FP.ddiv (FP.i2d (own_r p1 own_o)) (FP.i2d own_o))), .second, .val (.double (FP.ddiv (FP.i2d (own_r p2 own_o)) (FP.i2d own_o))), .second, .unset, .unset, .unset, .unset] []) _
            refine XS.dload X209.here hx rfl (hb hby at_158) rfl ?_
            refine XS.dconst0 X209.here hx rfl (hb hby at_160) rfl ?_
            refine XS.dcmpS X209.here hx rfl (hb hby at_161) rfl rfl ?_
            refine XS.ifYes X209.here hx rfl (pc0 := 162) (pc' := 169) rfl (hb hby at_162) rfl (XT.i0_ne_t (fun q => hf158_215 ((own_z0 (own_rv p1 own_opos) own_opos).mp q))) (by decide) (by decide) ?_
            show oS p e below T209 (mkF m 169 #[iv p0, iv p1, iv p2, iv p3, iv p0, rv aE, iv own_o, iv (own_r p1 own_o), iv (own_r p2 own_o), rv b191, rv b198, .val (.double (FP.ddiv (FP.i2d (own_r p1 own_o)) (FP.i2d own_o))), .second, .val (.double (FP.ddiv (FP.i2d (own_r p2 own_o)) (FP.i2d own_o))), .second, .unset, .unset, .unset, .unset] []) _
            refine XT.iconstV X209.here hx rfl (0 : Int32) (hb hby at_169) (by decide) ?_
            refine XS.iload X209.here hx rfl (hb hby at_170) rfl ?_
            refine XS.ifYes X209.here hx rfl (pc0 := 172) (pc' := 179) rfl (hb hby at_172) rfl (XT.i0_ne_t hf158_215) (by decide) (by decide) ?_
            refine XT.iconstV X209.here hx rfl (0 : Int32) (hb hby at_179) (by decide) ?_
            refine XS.icmpYes X209.here hx rfl (pc0 := 180) (pc' := 185) rfl (hb hby at_180) rfl (XT.ii_eq_t (by decide)) (by decide) (by decide) ?_
            exact kz)
          exact S217 tz kz
      have S218 : ∀ tz, oS p e below T209 (mkF m 185 #[iv p0, iv p1, iv p2, iv p3, iv p0, rv aE, iv own_o, iv (own_r p1 own_o), iv (own_r p2 own_o), rv b191, rv b198, .val (.double (FP.ddiv (FP.i2d (own_r p1 own_o)) (FP.i2d own_o))), .second, .val (.double (FP.ddiv (FP.i2d (own_r p2 own_o)) (FP.i2d own_o))), .second, .unset, .unset, .unset, .unset] []) tz → oS p e below s₁ (mkF m 0 #[iv p0, iv p1, iv p2, iv p3, .unset, .unset, .unset, .unset, .unset, .unset, .unset, .unset, .unset, .unset, .unset, .unset, .unset, .unset, .unset] []) tz := fun tz kz => S213 tz (by
        show oS p e below T209 (mkF m 158 #[iv p0, iv p1, iv p2, iv p3, iv p0, rv aE, iv own_o, iv (own_r p1 own_o), iv (own_r p2 own_o), rv b191, rv b198, .val (.double (FP.ddiv (FP.i2d (own_r p1 own_o)) (FP.i2d own_o))), .second, .val (.double (FP.ddiv (FP.i2d (own_r p2 own_o)) (FP.i2d own_o))), .second, .unset, .unset, .unset, .unset] []) _
        refine M214 _ ?_
        show oS p e below T209 (mkF m 185 #[iv p0, iv p1, iv p2, iv p3, iv p0, rv aE, iv own_o, iv (own_r p1 own_o), iv (own_r p2 own_o), rv b191, rv b198, .val (.double (FP.ddiv (FP.i2d (own_r p1 own_o)) (FP.i2d own_o))), .second, .val (.double (FP.ddiv (FP.i2d (own_r p2 own_o)) (FP.i2d own_o))), .second, .unset, .unset, .unset, .unset] []) _
        exact kz)
      have M219 : ∀ tz, oS p e below T209 (mkF m 214 #[iv p0, iv p1, iv p2, iv p3, iv p0, rv aE, iv own_o, iv (own_r p1 own_o), iv (own_r p2 own_o), rv b191, rv b198, .val (.double (FP.ddiv (FP.i2d (own_r p1 own_o)) (FP.i2d own_o))), .second, .val (.double (FP.ddiv (FP.i2d (own_r p2 own_o)) (FP.i2d own_o))), .second, .unset, .unset, .unset, .unset] []) tz → oS p e below T209 (mkF m 185 #[iv p0, iv p1, iv p2, iv p3, iv p0, rv aE, iv own_o, iv (own_r p1 own_o), iv (own_r p2 own_o), rv b191, rv b198, .val (.double (FP.ddiv (FP.i2d (own_r p1 own_o)) (FP.i2d own_o))), .second, .val (.double (FP.ddiv (FP.i2d (own_r p2 own_o)) (FP.i2d own_o))), .second, .unset, .unset, .unset, .unset] []) tz := by
        intro tz kz
        by_cases hf185_220 : (own_r p1 own_o) = own_o
        · have S221 : ∀ tz, oS p e below T209 (mkF m 214 #[iv p0, iv p1, iv p2, iv p3, iv p0, rv aE, iv own_o, iv (own_r p1 own_o), iv (own_r p2 own_o), rv b191, rv b198, .val (.double (FP.ddiv (FP.i2d (own_r p1 own_o)) (FP.i2d own_o))), .second, .val (.double (FP.ddiv (FP.i2d (own_r p2 own_o)) (FP.i2d own_o))), .second, .unset, .unset, .unset, .unset] []) tz → oS p e below T209 (mkF m 185 #[iv p0, iv p1, iv p2, iv p3, iv p0, rv aE, iv own_o, iv (own_r p1 own_o), iv (own_r p2 own_o), rv b191, rv b198, .val (.double (FP.ddiv (FP.i2d (own_r p1 own_o)) (FP.i2d own_o))), .second, .val (.double (FP.ddiv (FP.i2d (own_r p2 own_o)) (FP.i2d own_o))), .second, .unset, .unset, .unset, .unset] []) tz := fun tz kz => id (by
            show oS p e below T209 (mkF m 185 #[iv p0, iv p1, iv p2, iv p3, iv p0, rv aE, iv own_o, iv (own_r p1 own_o), iv (own_r p2 own_o), rv b191, rv b198, .val (.double (FP.ddiv (FP.i2d (own_r p1 own_o)) (FP.i2d own_o))), .second, .val (.double (FP.ddiv (FP.i2d (own_r p2 own_o)) (FP.i2d own_o))), .second, .unset, .unset, .unset, .unset] []) _
            refine XS.dload X209.here hx rfl (hb hby at_185) rfl ?_
            refine XS.dconst1 X209.here hx rfl (hb hby at_187) rfl ?_
            refine XS.dcmpS X209.here hx rfl (hb hby at_188) rfl rfl ?_
            show oS p e below T209 (mkF m 189 #[iv p0, iv p1, iv p2, iv p3, iv p0, rv aE, iv own_o, iv (own_r p1 own_o), iv (own_r p2 own_o), rv b191, rv b198, .val (.double (FP.ddiv (FP.i2d (own_r p1 own_o)) (FP.i2d own_o))), .second, .val (.double (FP.ddiv (FP.i2d (own_r p2 own_o)) (FP.i2d own_o))), .second, .unset, .unset, .unset, .unset] [(.int (cmpValue (FP.dcmp (FP.ddiv (FP.i2d (own_r p1 own_o)) (FP.i2d own_o)) FP.dconst1) .l))]) _
            refine XS.ifNo X209.here hx rfl (hb hby at_189) rfl (XT.i0_ne_f ((own_z1 (own_rv p1 own_opos) own_opos).mpr hf185_220)) ?_
            refine XT.iconstV X209.here hx rfl (1 : Int32) (hb hby at_192) (by decide) ?_
            refine XS.goto X209.here hx rfl (pc0 := 193) (pc' := 197) rfl (hb hby at_193) (by decide) (by decide) ?_
            refine XS.iload X209.here hx rfl (hb hby at_197) rfl ?_
            refine XS.iload X209.here hx rfl (hb hby at_199) rfl ?_
            refine XS.icmpNo X209.here hx rfl (hb hby at_201) rfl (XT.ii_ne_f hf185_220) ?_
            refine XT.iconstV X209.here hx rfl (1 : Int32) (hb hby at_204) (by decide) ?_
            refine XS.goto X209.here hx rfl (pc0 := 205) (pc' := 209) rfl (hb hby at_205) (by decide) (by decide) ?_
            refine XS.icmpYes X209.here hx rfl (pc0 := 209) (pc' := 214) rfl (hb hby at_209) rfl (XT.ii_eq_t (by decide)) (by decide) (by decide) ?_
            exact kz)
          exact S221 tz kz
        · have S222 : ∀ tz, oS p e below T209 (mkF m 214 #[iv p0, iv p1, iv p2, iv p3, iv p0, rv aE, iv own_o, iv (own_r p1 own_o), iv (own_r p2 own_o), rv b191, rv b198, .val (.double (FP.ddiv (FP.i2d (own_r p1 own_o)) (FP.i2d own_o))), .second, .val (.double (FP.ddiv (FP.i2d (own_r p2 own_o)) (FP.i2d own_o))), .second, .unset, .unset, .unset, .unset] []) tz → oS p e below T209 (mkF m 185 #[iv p0, iv p1, iv p2, iv p3, iv p0, rv aE, iv own_o, iv (own_r p1 own_o), iv (own_r p2 own_o), rv b191, rv b198, .val (.double (FP.ddiv (FP.i2d (own_r p1 own_o)) (FP.i2d own_o))), .second, .val (.double (FP.ddiv (FP.i2d (own_r p2 own_o)) (FP.i2d own_o))), .second, .unset, .unset, .unset, .unset] []) tz := fun tz kz => id (by
            show oS p e below T209 (mkF m 185 #[iv p0, iv p1, iv p2, iv p3, iv p0, rv aE, iv own_o, iv (own_r p1 own_o), iv (own_r p2 own_o), rv b191, rv b198, .val (.double (FP.ddiv (FP.i2d (own_r p1 own_o)) (FP.i2d own_o))), .second, .val (.double (FP.ddiv (FP.i2d (own_r p2 own_o)) (FP.i2d own_o))), .second, .unset, .unset, .unset, .unset] []) _
            refine XS.dload X209.here hx rfl (hb hby at_185) rfl ?_
            refine XS.dconst1 X209.here hx rfl (hb hby at_187) rfl ?_
            refine XS.dcmpS X209.here hx rfl (hb hby at_188) rfl rfl ?_
            show oS p e below T209 (mkF m 189 #[iv p0, iv p1, iv p2, iv p3, iv p0, rv aE, iv own_o, iv (own_r p1 own_o), iv (own_r p2 own_o), rv b191, rv b198, .val (.double (FP.ddiv (FP.i2d (own_r p1 own_o)) (FP.i2d own_o))), .second, .val (.double (FP.ddiv (FP.i2d (own_r p2 own_o)) (FP.i2d own_o))), .second, .unset, .unset, .unset, .unset] [(.int (cmpValue (FP.dcmp (FP.ddiv (FP.i2d (own_r p1 own_o)) (FP.i2d own_o)) FP.dconst1) .l))]) _
            refine XS.ifYes X209.here hx rfl (pc0 := 189) (pc' := 196) rfl (hb hby at_189) rfl (XT.i0_ne_t (fun q => hf185_220 ((own_z1 (own_rv p1 own_opos) own_opos).mp q))) (by decide) (by decide) ?_
            refine XT.iconstV X209.here hx rfl (0 : Int32) (hb hby at_196) (by decide) ?_
            refine XS.iload X209.here hx rfl (hb hby at_197) rfl ?_
            refine XS.iload X209.here hx rfl (hb hby at_199) rfl ?_
            refine XS.icmpYes X209.here hx rfl (pc0 := 201) (pc' := 208) rfl (hb hby at_201) rfl (XT.ii_ne_t hf185_220) (by decide) (by decide) ?_
            refine XT.iconstV X209.here hx rfl (0 : Int32) (hb hby at_208) (by decide) ?_
            refine XS.icmpYes X209.here hx rfl (pc0 := 209) (pc' := 214) rfl (hb hby at_209) rfl (XT.ii_eq_t (by decide)) (by decide) (by decide) ?_
            exact kz)
          exact S222 tz kz
      have S223 : ∀ tz, oS p e below T209 (mkF m 214 #[iv p0, iv p1, iv p2, iv p3, iv p0, rv aE, iv own_o, iv (own_r p1 own_o), iv (own_r p2 own_o), rv b191, rv b198, .val (.double (FP.ddiv (FP.i2d (own_r p1 own_o)) (FP.i2d own_o))), .second, .val (.double (FP.ddiv (FP.i2d (own_r p2 own_o)) (FP.i2d own_o))), .second, .unset, .unset, .unset, .unset] []) tz → oS p e below s₁ (mkF m 0 #[iv p0, iv p1, iv p2, iv p3, .unset, .unset, .unset, .unset, .unset, .unset, .unset, .unset, .unset, .unset, .unset, .unset, .unset, .unset, .unset] []) tz := fun tz kz => S218 tz (by
        show oS p e below T209 (mkF m 185 #[iv p0, iv p1, iv p2, iv p3, iv p0, rv aE, iv own_o, iv (own_r p1 own_o), iv (own_r p2 own_o), rv b191, rv b198, .val (.double (FP.ddiv (FP.i2d (own_r p1 own_o)) (FP.i2d own_o))), .second, .val (.double (FP.ddiv (FP.i2d (own_r p2 own_o)) (FP.i2d own_o))), .second, .unset, .unset, .unset, .unset] []) _
        refine M219 _ ?_
        show oS p e below T209 (mkF m 214 #[iv p0, iv p1, iv p2, iv p3, iv p0, rv aE, iv own_o, iv (own_r p1 own_o), iv (own_r p2 own_o), rv b191, rv b198, .val (.double (FP.ddiv (FP.i2d (own_r p1 own_o)) (FP.i2d own_o))), .second, .val (.double (FP.ddiv (FP.i2d (own_r p2 own_o)) (FP.i2d own_o))), .second, .unset, .unset, .unset, .unset] []) _
        exact kz)
      have M224 : ∀ tz, oS p e below T209 (mkF m 244 #[iv p0, iv p1, iv p2, iv p3, iv p0, rv aE, iv own_o, iv (own_r p1 own_o), iv (own_r p2 own_o), rv b191, rv b198, .val (.double (FP.ddiv (FP.i2d (own_r p1 own_o)) (FP.i2d own_o))), .second, .val (.double (FP.ddiv (FP.i2d (own_r p2 own_o)) (FP.i2d own_o))), .second, .unset, .unset, .unset, .unset] []) tz → oS p e below T209 (mkF m 214 #[iv p0, iv p1, iv p2, iv p3, iv p0, rv aE, iv own_o, iv (own_r p1 own_o), iv (own_r p2 own_o), rv b191, rv b198, .val (.double (FP.ddiv (FP.i2d (own_r p1 own_o)) (FP.i2d own_o))), .second, .val (.double (FP.ddiv (FP.i2d (own_r p2 own_o)) (FP.i2d own_o))), .second, .unset, .unset, .unset, .unset] []) tz := by
        intro tz kz
        by_cases hf214_225 : (own_r p1 own_o) < (own_r p2 own_o)
        · have S226 : ∀ tz, oS p e below T209 (mkF m 244 #[iv p0, iv p1, iv p2, iv p3, iv p0, rv aE, iv own_o, iv (own_r p1 own_o), iv (own_r p2 own_o), rv b191, rv b198, .val (.double (FP.ddiv (FP.i2d (own_r p1 own_o)) (FP.i2d own_o))), .second, .val (.double (FP.ddiv (FP.i2d (own_r p2 own_o)) (FP.i2d own_o))), .second, .unset, .unset, .unset, .unset] []) tz → oS p e below T209 (mkF m 214 #[iv p0, iv p1, iv p2, iv p3, iv p0, rv aE, iv own_o, iv (own_r p1 own_o), iv (own_r p2 own_o), rv b191, rv b198, .val (.double (FP.ddiv (FP.i2d (own_r p1 own_o)) (FP.i2d own_o))), .second, .val (.double (FP.ddiv (FP.i2d (own_r p2 own_o)) (FP.i2d own_o))), .second, .unset, .unset, .unset, .unset] []) tz := fun tz kz => id (by
            show oS p e below T209 (mkF m 214 #[iv p0, iv p1, iv p2, iv p3, iv p0, rv aE, iv own_o, iv (own_r p1 own_o), iv (own_r p2 own_o), rv b191, rv b198, .val (.double (FP.ddiv (FP.i2d (own_r p1 own_o)) (FP.i2d own_o))), .second, .val (.double (FP.ddiv (FP.i2d (own_r p2 own_o)) (FP.i2d own_o))), .second, .unset, .unset, .unset, .unset] []) _
            refine XS.iload X209.here hx rfl (hb hby at_214) rfl ?_
            refine XS.iload X209.here hx rfl (hb hby at_216) rfl ?_
            show oS p e below T209 (mkF m 218 #[iv p0, iv p1, iv p2, iv p3, iv p0, rv aE, iv own_o, iv (own_r p1 own_o), iv (own_r p2 own_o), rv b191, rv b198, .val (.double (FP.ddiv (FP.i2d (own_r p1 own_o)) (FP.i2d own_o))), .second, .val (.double (FP.ddiv (FP.i2d (own_r p2 own_o)) (FP.i2d own_o))), .second, .unset, .unset, .unset, .unset] [(.int (own_r p2 own_o)), (.int (own_r p1 own_o))]) _
            refine XS.icmpNo X209.here hx rfl (hb hby at_218) rfl (XT.ii_ge_f hf214_225) ?_
            refine XT.iconstV X209.here hx rfl (1 : Int32) (hb hby at_221) (by decide) ?_
            refine XS.goto X209.here hx rfl (pc0 := 222) (pc' := 226) rfl (hb hby at_222) (by decide) (by decide) ?_
            refine XS.dload X209.here hx rfl (hb hby at_226) rfl ?_
            refine XS.dload X209.here hx rfl (hb hby at_228) rfl ?_
            refine XS.dcmpS X209.here hx rfl (hb hby at_230) rfl rfl ?_
            refine XS.ifNo X209.here hx rfl (hb hby at_231) rfl (XT.i0_ge_f ((own_tl (own_rv p1 own_opos) (own_rv p2 own_opos) own_opos).mpr hf214_225)) ?_
            refine XT.iconstV X209.here hx rfl (1 : Int32) (hb hby at_234) (by decide) ?_
            refine XS.goto X209.here hx rfl (pc0 := 235) (pc' := 239) rfl (hb hby at_235) (by decide) (by decide) ?_
            refine XS.icmpYes X209.here hx rfl (pc0 := 239) (pc' := 244) rfl (hb hby at_239) rfl (XT.ii_eq_t (by decide)) (by decide) (by decide) ?_
            show oS p e below T209 (mkF m 244 #[iv p0, iv p1, iv p2, iv p3, iv p0, rv aE, iv own_o, iv (own_r p1 own_o), iv (own_r p2 own_o), rv b191, rv b198, .val (.double (FP.ddiv (FP.i2d (own_r p1 own_o)) (FP.i2d own_o))), .second, .val (.double (FP.ddiv (FP.i2d (own_r p2 own_o)) (FP.i2d own_o))), .second, .unset, .unset, .unset, .unset] []) _
            exact kz)
          exact S226 tz kz
        · have S227 : ∀ tz, oS p e below T209 (mkF m 244 #[iv p0, iv p1, iv p2, iv p3, iv p0, rv aE, iv own_o, iv (own_r p1 own_o), iv (own_r p2 own_o), rv b191, rv b198, .val (.double (FP.ddiv (FP.i2d (own_r p1 own_o)) (FP.i2d own_o))), .second, .val (.double (FP.ddiv (FP.i2d (own_r p2 own_o)) (FP.i2d own_o))), .second, .unset, .unset, .unset, .unset] []) tz → oS p e below T209 (mkF m 214 #[iv p0, iv p1, iv p2, iv p3, iv p0, rv aE, iv own_o, iv (own_r p1 own_o), iv (own_r p2 own_o), rv b191, rv b198, .val (.double (FP.ddiv (FP.i2d (own_r p1 own_o)) (FP.i2d own_o))), .second, .val (.double (FP.ddiv (FP.i2d (own_r p2 own_o)) (FP.i2d own_o))), .second, .unset, .unset, .unset, .unset] []) tz := fun tz kz => id (by
            show oS p e below T209 (mkF m 214 #[iv p0, iv p1, iv p2, iv p3, iv p0, rv aE, iv own_o, iv (own_r p1 own_o), iv (own_r p2 own_o), rv b191, rv b198, .val (.double (FP.ddiv (FP.i2d (own_r p1 own_o)) (FP.i2d own_o))), .second, .val (.double (FP.ddiv (FP.i2d (own_r p2 own_o)) (FP.i2d own_o))), .second, .unset, .unset, .unset, .unset] []) _
            refine XS.iload X209.here hx rfl (hb hby at_214) rfl ?_
            refine XS.iload X209.here hx rfl (hb hby at_216) rfl ?_
            show oS p e below T209 (mkF m 218 #[iv p0, iv p1, iv p2, iv p3, iv p0, rv aE, iv own_o, iv (own_r p1 own_o), iv (own_r p2 own_o), rv b191, rv b198, .val (.double (FP.ddiv (FP.i2d (own_r p1 own_o)) (FP.i2d own_o))), .second, .val (.double (FP.ddiv (FP.i2d (own_r p2 own_o)) (FP.i2d own_o))), .second, .unset, .unset, .unset, .unset] [(.int (own_r p2 own_o)), (.int (own_r p1 own_o))]) _
            refine XS.icmpYes X209.here hx rfl (pc0 := 218) (pc' := 225) rfl (hb hby at_218) rfl (XT.ii_ge_t hf214_225) (by decide) (by decide) ?_
            refine XT.iconstV X209.here hx rfl (0 : Int32) (hb hby at_225) (by decide) ?_
            refine XS.dload X209.here hx rfl (hb hby at_226) rfl ?_
            refine XS.dload X209.here hx rfl (hb hby at_228) rfl ?_
            refine XS.dcmpS X209.here hx rfl (hb hby at_230) rfl rfl ?_
            refine XS.ifYes X209.here hx rfl (pc0 := 231) (pc' := 238) rfl (hb hby at_231) rfl (XT.i0_ge_t (fun q => hf214_225 ((own_tl (own_rv p1 own_opos) (own_rv p2 own_opos) own_opos).mp q))) (by decide) (by decide) ?_
            refine XT.iconstV X209.here hx rfl (0 : Int32) (hb hby at_238) (by decide) ?_
            refine XS.icmpYes X209.here hx rfl (pc0 := 239) (pc' := 244) rfl (hb hby at_239) rfl (XT.ii_eq_t (by decide)) (by decide) (by decide) ?_
            exact kz)
          exact S227 tz kz
      have S228 : ∀ tz, oS p e below T209 (mkF m 244 #[iv p0, iv p1, iv p2, iv p3, iv p0, rv aE, iv own_o, iv (own_r p1 own_o), iv (own_r p2 own_o), rv b191, rv b198, .val (.double (FP.ddiv (FP.i2d (own_r p1 own_o)) (FP.i2d own_o))), .second, .val (.double (FP.ddiv (FP.i2d (own_r p2 own_o)) (FP.i2d own_o))), .second, .unset, .unset, .unset, .unset] []) tz → oS p e below s₁ (mkF m 0 #[iv p0, iv p1, iv p2, iv p3, .unset, .unset, .unset, .unset, .unset, .unset, .unset, .unset, .unset, .unset, .unset, .unset, .unset, .unset, .unset] []) tz := fun tz kz => S223 tz (by
        show oS p e below T209 (mkF m 214 #[iv p0, iv p1, iv p2, iv p3, iv p0, rv aE, iv own_o, iv (own_r p1 own_o), iv (own_r p2 own_o), rv b191, rv b198, .val (.double (FP.ddiv (FP.i2d (own_r p1 own_o)) (FP.i2d own_o))), .second, .val (.double (FP.ddiv (FP.i2d (own_r p2 own_o)) (FP.i2d own_o))), .second, .unset, .unset, .unset, .unset] []) _
        refine M224 _ ?_
        show oS p e below T209 (mkF m 244 #[iv p0, iv p1, iv p2, iv p3, iv p0, rv aE, iv own_o, iv (own_r p1 own_o), iv (own_r p2 own_o), rv b191, rv b198, .val (.double (FP.ddiv (FP.i2d (own_r p1 own_o)) (FP.i2d own_o))), .second, .val (.double (FP.ddiv (FP.i2d (own_r p2 own_o)) (FP.i2d own_o))), .second, .unset, .unset, .unset, .unset] []) _
        exact kz)
      have M229 : ∀ tz, oS p e below T209 (mkF m 274 #[iv p0, iv p1, iv p2, iv p3, iv p0, rv aE, iv own_o, iv (own_r p1 own_o), iv (own_r p2 own_o), rv b191, rv b198, .val (.double (FP.ddiv (FP.i2d (own_r p1 own_o)) (FP.i2d own_o))), .second, .val (.double (FP.ddiv (FP.i2d (own_r p2 own_o)) (FP.i2d own_o))), .second, .unset, .unset, .unset, .unset] []) tz → oS p e below T209 (mkF m 244 #[iv p0, iv p1, iv p2, iv p3, iv p0, rv aE, iv own_o, iv (own_r p1 own_o), iv (own_r p2 own_o), rv b191, rv b198, .val (.double (FP.ddiv (FP.i2d (own_r p1 own_o)) (FP.i2d own_o))), .second, .val (.double (FP.ddiv (FP.i2d (own_r p2 own_o)) (FP.i2d own_o))), .second, .unset, .unset, .unset, .unset] []) tz := by
        intro tz kz
        by_cases hf244_230 : (own_r p1 own_o) = (own_r p2 own_o)
        · have S231 : ∀ tz, oS p e below T209 (mkF m 274 #[iv p0, iv p1, iv p2, iv p3, iv p0, rv aE, iv own_o, iv (own_r p1 own_o), iv (own_r p2 own_o), rv b191, rv b198, .val (.double (FP.ddiv (FP.i2d (own_r p1 own_o)) (FP.i2d own_o))), .second, .val (.double (FP.ddiv (FP.i2d (own_r p2 own_o)) (FP.i2d own_o))), .second, .unset, .unset, .unset, .unset] []) tz → oS p e below T209 (mkF m 244 #[iv p0, iv p1, iv p2, iv p3, iv p0, rv aE, iv own_o, iv (own_r p1 own_o), iv (own_r p2 own_o), rv b191, rv b198, .val (.double (FP.ddiv (FP.i2d (own_r p1 own_o)) (FP.i2d own_o))), .second, .val (.double (FP.ddiv (FP.i2d (own_r p2 own_o)) (FP.i2d own_o))), .second, .unset, .unset, .unset, .unset] []) tz := fun tz kz => id (by
            show oS p e below T209 (mkF m 244 #[iv p0, iv p1, iv p2, iv p3, iv p0, rv aE, iv own_o, iv (own_r p1 own_o), iv (own_r p2 own_o), rv b191, rv b198, .val (.double (FP.ddiv (FP.i2d (own_r p1 own_o)) (FP.i2d own_o))), .second, .val (.double (FP.ddiv (FP.i2d (own_r p2 own_o)) (FP.i2d own_o))), .second, .unset, .unset, .unset, .unset] []) _
            refine XS.iload X209.here hx rfl (hb hby at_244) rfl ?_
            show oS p e below T209 (mkF m 246 #[iv p0, iv p1, iv p2, iv p3, iv p0, rv aE, iv own_o, iv (own_r p1 own_o), iv (own_r p2 own_o), rv b191, rv b198, .val (.double (FP.ddiv (FP.i2d (own_r p1 own_o)) (FP.i2d own_o))), .second, .val (.double (FP.ddiv (FP.i2d (own_r p2 own_o)) (FP.i2d own_o))), .second, .unset, .unset, .unset, .unset] [(.int (own_r p1 own_o))]) _
            refine XS.iload X209.here hx rfl (hb hby at_246) rfl ?_
            refine XS.icmpNo X209.here hx rfl (hb hby at_248) rfl (XT.ii_ne_f hf244_230) ?_
            refine XT.iconstV X209.here hx rfl (1 : Int32) (hb hby at_251) (by decide) ?_
            refine XS.goto X209.here hx rfl (pc0 := 252) (pc' := 256) rfl (hb hby at_252) (by decide) (by decide) ?_
            refine XS.dload X209.here hx rfl (hb hby at_256) rfl ?_
            refine XS.dload X209.here hx rfl (hb hby at_258) rfl ?_
            refine XS.dcmpS X209.here hx rfl (hb hby at_260) rfl rfl ?_
            refine XS.ifNo X209.here hx rfl (hb hby at_261) rfl (XT.i0_ne_f ((own_te (own_rv p1 own_opos) (own_rv p2 own_opos) own_opos).mpr hf244_230)) ?_
            refine XT.iconstV X209.here hx rfl (1 : Int32) (hb hby at_264) (by decide) ?_
            refine XS.goto X209.here hx rfl (pc0 := 265) (pc' := 269) rfl (hb hby at_265) (by decide) (by decide) ?_
            show oS p e below T209 (mkF m 269 #[iv p0, iv p1, iv p2, iv p3, iv p0, rv aE, iv own_o, iv (own_r p1 own_o), iv (own_r p2 own_o), rv b191, rv b198, .val (.double (FP.ddiv (FP.i2d (own_r p1 own_o)) (FP.i2d own_o))), .second, .val (.double (FP.ddiv (FP.i2d (own_r p2 own_o)) (FP.i2d own_o))), .second, .unset, .unset, .unset, .unset] [(.int 1), (.int 1)]) _
            refine XS.icmpYes X209.here hx rfl (pc0 := 269) (pc' := 274) rfl (hb hby at_269) rfl (XT.ii_eq_t (by decide)) (by decide) (by decide) ?_
            exact kz)
          exact S231 tz kz
        · have S232 : ∀ tz, oS p e below T209 (mkF m 274 #[iv p0, iv p1, iv p2, iv p3, iv p0, rv aE, iv own_o, iv (own_r p1 own_o), iv (own_r p2 own_o), rv b191, rv b198, .val (.double (FP.ddiv (FP.i2d (own_r p1 own_o)) (FP.i2d own_o))), .second, .val (.double (FP.ddiv (FP.i2d (own_r p2 own_o)) (FP.i2d own_o))), .second, .unset, .unset, .unset, .unset] []) tz → oS p e below T209 (mkF m 244 #[iv p0, iv p1, iv p2, iv p3, iv p0, rv aE, iv own_o, iv (own_r p1 own_o), iv (own_r p2 own_o), rv b191, rv b198, .val (.double (FP.ddiv (FP.i2d (own_r p1 own_o)) (FP.i2d own_o))), .second, .val (.double (FP.ddiv (FP.i2d (own_r p2 own_o)) (FP.i2d own_o))), .second, .unset, .unset, .unset, .unset] []) tz := fun tz kz => id (by
            show oS p e below T209 (mkF m 244 #[iv p0, iv p1, iv p2, iv p3, iv p0, rv aE, iv own_o, iv (own_r p1 own_o), iv (own_r p2 own_o), rv b191, rv b198, .val (.double (FP.ddiv (FP.i2d (own_r p1 own_o)) (FP.i2d own_o))), .second, .val (.double (FP.ddiv (FP.i2d (own_r p2 own_o)) (FP.i2d own_o))), .second, .unset, .unset, .unset, .unset] []) _
            refine XS.iload X209.here hx rfl (hb hby at_244) rfl ?_
            show oS p e below T209 (mkF m 246 #[iv p0, iv p1, iv p2, iv p3, iv p0, rv aE, iv own_o, iv (own_r p1 own_o), iv (own_r p2 own_o), rv b191, rv b198, .val (.double (FP.ddiv (FP.i2d (own_r p1 own_o)) (FP.i2d own_o))), .second, .val (.double (FP.ddiv (FP.i2d (own_r p2 own_o)) (FP.i2d own_o))), .second, .unset, .unset, .unset, .unset] [(.int (own_r p1 own_o))]) _
            refine XS.iload X209.here hx rfl (hb hby at_246) rfl ?_
            refine XS.icmpYes X209.here hx rfl (pc0 := 248) (pc' := 255) rfl (hb hby at_248) rfl (XT.ii_ne_t hf244_230) (by decide) (by decide) ?_
            refine XT.iconstV X209.here hx rfl (0 : Int32) (hb hby at_255) (by decide) ?_
            refine XS.dload X209.here hx rfl (hb hby at_256) rfl ?_
            refine XS.dload X209.here hx rfl (hb hby at_258) rfl ?_
            refine XS.dcmpS X209.here hx rfl (hb hby at_260) rfl rfl ?_
            refine XS.ifYes X209.here hx rfl (pc0 := 261) (pc' := 268) rfl (hb hby at_261) rfl (XT.i0_ne_t (fun q => hf244_230 ((own_te (own_rv p1 own_opos) (own_rv p2 own_opos) own_opos).mp q))) (by decide) (by decide) ?_
            refine XT.iconstV X209.here hx rfl (0 : Int32) (hb hby at_268) (by decide) ?_
            refine XS.icmpYes X209.here hx rfl (pc0 := 269) (pc' := 274) rfl (hb hby at_269) rfl (XT.ii_eq_t (by decide)) (by decide) (by decide) ?_
            exact kz)
          exact S232 tz kz
      obtain ⟨_, T233, Lc233, X233, hQ233, st233⟩ := own_callS (W := 0) (y := mN7) X209 hx hZ hown (hw _ (own_w 0 rfl)) (hw _ (own_w 1 rfl)) (hw _ (own_w 2 rfl)) (hw _ (own_w 3 rfl)) (by decide) (rmMk l Z av0 hw [] ((2 : Int32) * own_o) ((2 : Int32) * (own_r p1 own_o)) T198.heap n0 Zk198 ) (by decide) (by decide) (g := (mkF m 289 #[iv p0, iv p1, iv p2, iv p3, iv p0, rv aE, iv own_o, iv (own_r p1 own_o), iv (own_r p2 own_o), rv b191, rv b198, .val (.double (FP.ddiv (FP.i2d (own_r p1 own_o)) (FP.i2d own_o))), .second, .val (.double (FP.ddiv (FP.i2d (own_r p2 own_o)) (FP.i2d own_o))), .second, .unset, .unset, .unset, .unset] [(.int ((2 : Int32) * (own_r p1 own_o))), (.int ((2 : Int32) * own_o))])) rfl (by rw [hml]; rfl) (argsL := [(.int ((2 : Int32) * own_o)), (.int ((2 : Int32) * (own_r p1 own_o)))]) (rest := []) (lenOf pd__II_Lcom_example_graftwork_graftwork_simulate_Summary_ rfl) rfl (hb hby at_289) rfl e209 (by decide : 5 + 1 ≤ _) (by decide : 28 + 8 ≤ _)
      obtain ⟨b233, rfl, N233q, gb233, K233, E233, Fa233, Fc233⟩ := hQ233
      have N233 := Fr.app N209 N233q
      have e233 : T233.heap = T233.heap := rfl
      have f234 := (f199.keep K198)
      have ne_aE_b233 : aE ≠ b233 := Nat.ne_of_lt (Nat.lt_of_lt_of_le f234.lt gb233)
      have f235 := (f200.keep K198)
      have ne_b184_b233 : b184 ≠ b233 := Nat.ne_of_lt (Nat.lt_of_lt_of_le f235.lt gb233)
      have f236 := (f201.keep K198)
      have ne_b190_b233 : b190 ≠ b233 := Nat.ne_of_lt (Nat.lt_of_lt_of_le f236.lt gb233)
      have ne_b191_b233 : b191 ≠ b233 := Nat.ne_of_lt (Nat.lt_of_lt_of_le f205.lt gb233)
      have f237 := (E194.keep K198)
      have ne_b194_b233 : b194 ≠ b233 := Nat.ne_of_lt (Nat.lt_of_lt_of_le f237.lt gb233)
      have ne_b198_b233 : b198 ≠ b233 := Nat.ne_of_lt (Nat.lt_of_lt_of_le E198.lt gb233)
      have ge_b233 : n0 ≤ b233 := Nat.le_trans Zk198 gb233
      have sz_b233 : h0.size ≤ b233 := Nat.le_trans Kk198.1 gb233
      have Zk233 : n0 ≤ T233.heap.size := Nat.le_trans Zk198 K233.1
      have Kk233 : Keep h0 T233.heap [] := Kk198.trans K233 all0
      obtain ⟨_, T238, Lc238, X238, hQ238, st238⟩ := own_virtual (W := 0) (y := mN8) (z := mN8) X233 hx hZ hown (hw _ (own_w 34 rfl)) (hw _ (own_w 35 rfl)) (notFace_of_selects (args := #[]) (mvT hZ (hw _ (own_w 37 rfl)))) (hw _ (own_w 37 rfl)) (hw _ (own_w 36 rfl)) (hw _ (own_w 38 rfl)) (hw _ (own_w 6 rfl)) (by decide) (rmRatP l Z av0 hw [] b233 ((2 : Int32) * own_o) ((2 : Int32) * (own_r p1 own_o)) T233.heap n0 Zk233 Fa233 Fc233 (own_2nz own_opos own_ole)) (by decide) (by decide) E233 (g := (mkF m 292 #[iv p0, iv p1, iv p2, iv p3, iv p0, rv aE, iv own_o, iv (own_r p1 own_o), iv (own_r p2 own_o), rv b191, rv b198, .val (.double (FP.ddiv (FP.i2d (own_r p1 own_o)) (FP.i2d own_o))), .second, .val (.double (FP.ddiv (FP.i2d (own_r p2 own_o)) (FP.i2d own_o))), .second, .unset, .unset, .unset, .unset] [(.ref b233)])) rfl (by rw [hml]; rfl) (argsL := []) (rest := []) (lenOf pd__Ljava_util_OptionalDouble_ rfl) rfl (hb hby at_292) rfl e233 (by decide : 6 + 1 ≤ _) (by decide : 36 + 2 ≤ _)
      obtain ⟨b238, rfl, N238q, gb238, K238, E238, I238, V238⟩ := hQ238
      have N238 := Fr.app N233 N238q
      have e238 : T238.heap = T238.heap := rfl
      have f239 := (f234.keep K233)
      have ne_aE_b238 : aE ≠ b238 := Nat.ne_of_lt (Nat.lt_of_lt_of_le f239.lt gb238)
      have f240 := (f235.keep K233)
      have ne_b184_b238 : b184 ≠ b238 := Nat.ne_of_lt (Nat.lt_of_lt_of_le f240.lt gb238)
      have f241 := (f236.keep K233)
      have ne_b190_b238 : b190 ≠ b238 := Nat.ne_of_lt (Nat.lt_of_lt_of_le f241.lt gb238)
      have f242 := (f205.keep K233)
      have ne_b191_b238 : b191 ≠ b238 := Nat.ne_of_lt (Nat.lt_of_lt_of_le f242.lt gb238)
      have f243 := (f237.keep K233)
      have ne_b194_b238 : b194 ≠ b238 := Nat.ne_of_lt (Nat.lt_of_lt_of_le f243.lt gb238)
      have f244 := (E198.keep K233)
      have ne_b198_b238 : b198 ≠ b238 := Nat.ne_of_lt (Nat.lt_of_lt_of_le f244.lt gb238)
      have ne_b233_b238 : b233 ≠ b238 := Nat.ne_of_lt (Nat.lt_of_lt_of_le E233.lt gb238)
      have ge_b238 : n0 ≤ b238 := Nat.le_trans Zk233 gb238
      have sz_b238 : h0.size ≤ b238 := Nat.le_trans Kk233.1 gb238
      have Zk238 : n0 ≤ T238.heap.size := Nat.le_trans Zk233 K238.1
      have Kk238 : Keep h0 T238.heap [] := Kk233.trans K238 all0
      obtain ⟨_, T245, Lc245, X245, hQ245, st245⟩ := own_virtual (W := 0) (y := mN3) (z := mN3) X238 hx hZ hown (hw _ (own_w 44 rfl)) (hw _ (own_w 45 rfl)) (notFace_of_selects (args := #[]) (mvT hZ (hw _ (own_w 47 rfl)))) (hw _ (own_w 47 rfl)) (hw _ (own_w 46 rfl)) (hw _ (own_w 48 rfl)) (hw _ (own_w 41 rfl)) (by decide) (rmIs1 l Z av0 hw [] b238 T238.heap n0 Zk238 I238) (by decide) (by decide) E238 (g := (mkF m 299 #[iv p0, iv p1, iv p2, iv p3, iv p0, rv aE, iv own_o, iv (own_r p1 own_o), iv (own_r p2 own_o), rv b191, rv b198, .val (.double (FP.ddiv (FP.i2d (own_r p1 own_o)) (FP.i2d own_o))), .second, .val (.double (FP.ddiv (FP.i2d (own_r p2 own_o)) (FP.i2d own_o))), .second, rv b238, .unset, .unset, .unset] [(.ref b238)])) rfl (by rw [hml]; rfl) (argsL := []) (rest := []) (lenOf pd__Z rfl) rfl (hb hby at_299) rfl e238 (by decide : 7 + 0 ≤ _) (by decide : 38 + 0 ≤ _)
      obtain ⟨rfl, N245q, hh245⟩ := hQ245
      have N245 := Fr.app N238 N245q
      have e245 : T245.heap = T238.heap := hh245
      obtain ⟨_, T246, Lc246, X246, hQ246, st246⟩ := own_virtual (W := 0) (y := mN4) (z := mN4) X245 hx hZ hown (hw _ (own_w 64 rfl)) (hw _ (own_w 65 rfl)) (notFace_of_selects (args := #[]) (mvT hZ (hw _ (own_w 67 rfl)))) (hw _ (own_w 67 rfl)) (hw _ (own_w 66 rfl)) (hw _ (own_w 68 rfl)) (hw _ (own_w 41 rfl)) (by decide) (rmGet l Z av0 hw [] b238 (FP.ddiv (FP.i2d ((2 : Int32) * (own_r p1 own_o))) (FP.i2d ((2 : Int32) * own_o))) T238.heap n0 Zk238 I238 V238) (by decide) (by decide) E238 (g := (mkF m 307 #[iv p0, iv p1, iv p2, iv p3, iv p0, rv aE, iv own_o, iv (own_r p1 own_o), iv (own_r p2 own_o), rv b191, rv b198, .val (.double (FP.ddiv (FP.i2d (own_r p1 own_o)) (FP.i2d own_o))), .second, .val (.double (FP.ddiv (FP.i2d (own_r p2 own_o)) (FP.i2d own_o))), .second, rv b238, .unset, .unset, .unset] [(.ref b238)])) rfl (by rw [hml]; rfl) (argsL := []) (rest := []) (lenOf pd__D rfl) rfl (hb hby at_307) rfl e245 (by decide : 7 + 0 ≤ _) (by decide : 38 + 0 ≤ _)
      obtain ⟨rfl, N246q, hh246⟩ := hQ246
      have N246 := Fr.app N245 N246q
      have e246 : T246.heap = T238.heap := hh246
      obtain ⟨_, T247, Lc247, X247, hQ247, st247⟩ := own_callS (W := 0) (y := mN7) X246 hx hZ hown (hw _ (own_w 0 rfl)) (hw _ (own_w 1 rfl)) (hw _ (own_w 2 rfl)) (hw _ (own_w 3 rfl)) (by decide) (rmMk l Z av0 hw [] (own_pp p3) (own_r p2 (own_pp p3)) T238.heap n0 Zk238 ) (by decide) (by decide) (g := (mkF m 350 #[iv p0, iv p1, iv p2, iv p3, iv p0, rv aE, iv own_o, iv (own_r p1 own_o), iv (own_r p2 own_o), rv b191, rv b198, .val (.double (FP.ddiv (FP.i2d (own_r p1 own_o)) (FP.i2d own_o))), .second, .val (.double (FP.ddiv (FP.i2d (own_r p2 own_o)) (FP.i2d own_o))), .second, iv (own_kk p3), iv (own_pp p3), iv ((own_r p2 (own_pp p3))), .unset] [(.int (own_r p2 (own_pp p3))), (.int (own_pp p3))])) rfl (by rw [hml]; rfl) (argsL := [(.int (own_pp p3)), (.int (own_r p2 (own_pp p3)))]) (rest := []) (lenOf pd__II_Lcom_example_graftwork_graftwork_simulate_Summary_ rfl) rfl (hb hby at_350) rfl e246 (by decide : 7 + 1 ≤ _) (by decide : 38 + 8 ≤ _)
      obtain ⟨b247, rfl, N247q, gb247, K247, E247, Fa247, Fc247⟩ := hQ247
      have N247 := Fr.app N246 N247q
      have e247 : T247.heap = T247.heap := rfl
      have f248 := (f239.keep K238)
      have ne_aE_b247 : aE ≠ b247 := Nat.ne_of_lt (Nat.lt_of_lt_of_le f248.lt gb247)
      have f249 := (f240.keep K238)
      have ne_b184_b247 : b184 ≠ b247 := Nat.ne_of_lt (Nat.lt_of_lt_of_le f249.lt gb247)
      have f250 := (f241.keep K238)
      have ne_b190_b247 : b190 ≠ b247 := Nat.ne_of_lt (Nat.lt_of_lt_of_le f250.lt gb247)
      have f251 := (f242.keep K238)
      have ne_b191_b247 : b191 ≠ b247 := Nat.ne_of_lt (Nat.lt_of_lt_of_le f251.lt gb247)
      have f252 := (f243.keep K238)
      have ne_b194_b247 : b194 ≠ b247 := Nat.ne_of_lt (Nat.lt_of_lt_of_le f252.lt gb247)
      have f253 := (f244.keep K238)
      have ne_b198_b247 : b198 ≠ b247 := Nat.ne_of_lt (Nat.lt_of_lt_of_le f253.lt gb247)
      have f254 := (E233.keep K238)
      have ne_b233_b247 : b233 ≠ b247 := Nat.ne_of_lt (Nat.lt_of_lt_of_le f254.lt gb247)
      have ne_b238_b247 : b238 ≠ b247 := Nat.ne_of_lt (Nat.lt_of_lt_of_le E238.lt gb247)
      have ge_b247 : n0 ≤ b247 := Nat.le_trans Zk238 gb247
      have sz_b247 : h0.size ≤ b247 := Nat.le_trans Kk238.1 gb247
      have Zk247 : n0 ≤ T247.heap.size := Nat.le_trans Zk238 K247.1
      have Kk247 : Keep h0 T247.heap [] := Kk238.trans K247 all0
      obtain ⟨_, T255, Lc255, X255, hQ255, st255⟩ := own_virtual (W := 0) (y := mN8) (z := mN8) X247 hx hZ hown (hw _ (own_w 34 rfl)) (hw _ (own_w 35 rfl)) (notFace_of_selects (args := #[]) (mvT hZ (hw _ (own_w 37 rfl)))) (hw _ (own_w 37 rfl)) (hw _ (own_w 36 rfl)) (hw _ (own_w 38 rfl)) (hw _ (own_w 6 rfl)) (by decide) (rmRatP l Z av0 hw [] b247 (own_pp p3) (own_r p2 (own_pp p3)) T247.heap n0 Zk247 Fa247 Fc247 (own_pnz (own_ppos p3))) (by decide) (by decide) E247 (g := (mkF m 353 #[iv p0, iv p1, iv p2, iv p3, iv p0, rv aE, iv own_o, iv (own_r p1 own_o), iv (own_r p2 own_o), rv b191, rv b198, .val (.double (FP.ddiv (FP.i2d (own_r p1 own_o)) (FP.i2d own_o))), .second, .val (.double (FP.ddiv (FP.i2d (own_r p2 own_o)) (FP.i2d own_o))), .second, iv (own_kk p3), iv (own_pp p3), iv ((own_r p2 (own_pp p3))), .unset] [(.ref b247)])) rfl (by rw [hml]; rfl) (argsL := []) (rest := []) (lenOf pd__Ljava_util_OptionalDouble_ rfl) rfl (hb hby at_353) rfl e247 (by decide : 8 + 1 ≤ _) (by decide : 46 + 2 ≤ _)
      obtain ⟨b255, rfl, N255q, gb255, K255, E255, I255, V255⟩ := hQ255
      have N255 := Fr.app N247 N255q
      have e255 : T255.heap = T255.heap := rfl
      have f256 := (f248.keep K247)
      have ne_aE_b255 : aE ≠ b255 := Nat.ne_of_lt (Nat.lt_of_lt_of_le f256.lt gb255)
      have f257 := (f249.keep K247)
      have ne_b184_b255 : b184 ≠ b255 := Nat.ne_of_lt (Nat.lt_of_lt_of_le f257.lt gb255)
      have f258 := (f250.keep K247)
      have ne_b190_b255 : b190 ≠ b255 := Nat.ne_of_lt (Nat.lt_of_lt_of_le f258.lt gb255)
      have f259 := (f251.keep K247)
      have ne_b191_b255 : b191 ≠ b255 := Nat.ne_of_lt (Nat.lt_of_lt_of_le f259.lt gb255)
      have f260 := (f252.keep K247)
      have ne_b194_b255 : b194 ≠ b255 := Nat.ne_of_lt (Nat.lt_of_lt_of_le f260.lt gb255)
      have f261 := (f253.keep K247)
      have ne_b198_b255 : b198 ≠ b255 := Nat.ne_of_lt (Nat.lt_of_lt_of_le f261.lt gb255)
      have f262 := (f254.keep K247)
      have ne_b233_b255 : b233 ≠ b255 := Nat.ne_of_lt (Nat.lt_of_lt_of_le f262.lt gb255)
      have f263 := (E238.keep K247)
      have ne_b238_b255 : b238 ≠ b255 := Nat.ne_of_lt (Nat.lt_of_lt_of_le f263.lt gb255)
      have ne_b247_b255 : b247 ≠ b255 := Nat.ne_of_lt (Nat.lt_of_lt_of_le E247.lt gb255)
      have ge_b255 : n0 ≤ b255 := Nat.le_trans Zk247 gb255
      have sz_b255 : h0.size ≤ b255 := Nat.le_trans Kk247.1 gb255
      have Zk255 : n0 ≤ T255.heap.size := Nat.le_trans Zk247 K255.1
      have Kk255 : Keep h0 T255.heap [] := Kk247.trans K255 all0
      obtain ⟨_, T264, Lc264, X264, hQ264, st264⟩ := own_virtual (W := 0) (y := mN3) (z := mN3) X255 hx hZ hown (hw _ (own_w 44 rfl)) (hw _ (own_w 45 rfl)) (notFace_of_selects (args := #[]) (mvT hZ (hw _ (own_w 47 rfl)))) (hw _ (own_w 47 rfl)) (hw _ (own_w 46 rfl)) (hw _ (own_w 48 rfl)) (hw _ (own_w 41 rfl)) (by decide) (rmIs1 l Z av0 hw [] b255 T255.heap n0 Zk255 I255) (by decide) (by decide) E255 (g := (mkF m 360 #[iv p0, iv p1, iv p2, iv p3, iv p0, rv aE, iv own_o, iv (own_r p1 own_o), iv (own_r p2 own_o), rv b191, rv b198, .val (.double (FP.ddiv (FP.i2d (own_r p1 own_o)) (FP.i2d own_o))), .second, .val (.double (FP.ddiv (FP.i2d (own_r p2 own_o)) (FP.i2d own_o))), .second, iv (own_kk p3), iv (own_pp p3), iv ((own_r p2 (own_pp p3))), rv b255] [(.ref b255)])) rfl (by rw [hml]; rfl) (argsL := []) (rest := []) (lenOf pd__Z rfl) rfl (hb hby at_360) rfl e255 (by decide : 9 + 0 ≤ _) (by decide : 48 + 0 ≤ _)
      obtain ⟨rfl, N264q, hh264⟩ := hQ264
      have N264 := Fr.app N255 N264q
      have e264 : T264.heap = T255.heap := hh264
      obtain ⟨_, T265, Lc265, X265, hQ265, st265⟩ := own_virtual (W := 0) (y := mN4) (z := mN4) X264 hx hZ hown (hw _ (own_w 64 rfl)) (hw _ (own_w 65 rfl)) (notFace_of_selects (args := #[]) (mvT hZ (hw _ (own_w 67 rfl)))) (hw _ (own_w 67 rfl)) (hw _ (own_w 66 rfl)) (hw _ (own_w 68 rfl)) (hw _ (own_w 41 rfl)) (by decide) (rmGet l Z av0 hw [] b255 (FP.ddiv (FP.i2d (own_r p2 (own_pp p3))) (FP.i2d (own_pp p3))) T255.heap n0 Zk255 I255 V255) (by decide) (by decide) E255 (g := (mkF m 370 #[iv p0, iv p1, iv p2, iv p3, iv p0, rv aE, iv own_o, iv (own_r p1 own_o), iv (own_r p2 own_o), rv b191, rv b198, .val (.double (FP.ddiv (FP.i2d (own_r p1 own_o)) (FP.i2d own_o))), .second, .val (.double (FP.ddiv (FP.i2d (own_r p2 own_o)) (FP.i2d own_o))), .second, iv (own_kk p3), iv (own_pp p3), iv ((own_r p2 (own_pp p3))), rv b255] [(.ref b255)])) rfl (by rw [hml]; rfl) (argsL := []) (rest := []) (lenOf pd__D rfl) rfl (hb hby at_370) rfl e264 (by decide : 9 + 0 ≤ _) (by decide : 48 + 0 ≤ _)
      obtain ⟨rfl, N265q, hh265⟩ := hQ265
      have N265 := Fr.app N264 N265q
      have e265 : T265.heap = T255.heap := hh265
      have S266 : ∀ tz, oS p e below T265 (mkF m 389 #[iv p0, iv p1, iv p2, iv p3, iv p0, rv aE, iv own_o, iv (own_r p1 own_o), iv (own_r p2 own_o), rv b191, rv b198, .val (.double (FP.ddiv (FP.i2d (own_r p1 own_o)) (FP.i2d own_o))), .second, .val (.double (FP.ddiv (FP.i2d (own_r p2 own_o)) (FP.i2d own_o))), .second, iv (own_kk p3), iv (own_pp p3), iv ((own_r p2 (own_pp p3))), rv b255] [(.int 1)]) tz → oS p e below s₁ (mkF m 0 #[iv p0, iv p1, iv p2, iv p3, .unset, .unset, .unset, .unset, .unset, .unset, .unset, .unset, .unset, .unset, .unset, .unset, .unset, .unset, .unset] []) tz := fun tz kz => S228 tz (by
        show oS p e below T209 (mkF m 244 #[iv p0, iv p1, iv p2, iv p3, iv p0, rv aE, iv own_o, iv (own_r p1 own_o), iv (own_r p2 own_o), rv b191, rv b198, .val (.double (FP.ddiv (FP.i2d (own_r p1 own_o)) (FP.i2d own_o))), .second, .val (.double (FP.ddiv (FP.i2d (own_r p2 own_o)) (FP.i2d own_o))), .second, .unset, .unset, .unset, .unset] []) _
        refine M229 _ ?_
        show oS p e below T209 (mkF m 274 #[iv p0, iv p1, iv p2, iv p3, iv p0, rv aE, iv own_o, iv (own_r p1 own_o), iv (own_r p2 own_o), rv b191, rv b198, .val (.double (FP.ddiv (FP.i2d (own_r p1 own_o)) (FP.i2d own_o))), .second, .val (.double (FP.ddiv (FP.i2d (own_r p2 own_o)) (FP.i2d own_o))), .second, .unset, .unset, .unset, .unset] []) _
        refine XS.iload X209.here hx rfl (hb hby at_274) rfl ?_
        refine X209.ldcI hx hown (mvT hZ (hw _ (own_w 69 rfl))) rfl (hb hby at_276) ?_
        refine XS.icmpNo X209.here hx rfl (hb hby at_278) rfl (XT.ii_gt_f own_ole) ?_
        refine XT.iconstV X209.here hx rfl (2 : Int32) (hb hby at_281) (by decide) ?_
        refine XS.iload X209.here hx rfl (hb hby at_282) rfl ?_
        refine XS.imul X209.here hx rfl (hb hby at_284) rfl ?_
        refine XT.iconstV X209.here hx rfl (2 : Int32) (hb hby at_285) (by decide) ?_
        refine XS.iload X209.here hx rfl (hb hby at_286) rfl ?_
        refine XS.imul X209.here hx rfl (hb hby at_288) rfl ?_
        refine st233 _ ?_
        show oS p e below T233 (mkF m 292 #[iv p0, iv p1, iv p2, iv p3, iv p0, rv aE, iv own_o, iv (own_r p1 own_o), iv (own_r p2 own_o), rv b191, rv b198, .val (.double (FP.ddiv (FP.i2d (own_r p1 own_o)) (FP.i2d own_o))), .second, .val (.double (FP.ddiv (FP.i2d (own_r p2 own_o)) (FP.i2d own_o))), .second, .unset, .unset, .unset, .unset] [(.ref b233)]) _
        refine st238 _ ?_
        refine XS.astore X238.here hx rfl (hb hby at_295) rfl rfl (l' := #[iv p0, iv p1, iv p2, iv p3, iv p0, rv aE, iv own_o, iv (own_r p1 own_o), iv (own_r p2 own_o), rv b191, rv b198, .val (.double (FP.ddiv (FP.i2d (own_r p1 own_o)) (FP.i2d own_o))), .second, .val (.double (FP.ddiv (FP.i2d (own_r p2 own_o)) (FP.i2d own_o))), .second, rv b238, .unset, .unset, .unset]) rfl ?_
        refine XS.aload X238.here hx rfl (hb hby at_297) rfl rfl ?_
        refine st245 _ ?_
        refine XS.ifNo X245.here hx rfl (hb hby at_302) rfl (XT.i0_eq_f (by decide)) ?_
        refine XS.aload X245.here hx rfl (hb hby at_305) rfl rfl ?_
        refine st246 _ ?_
        refine XS.dload X246.here hx rfl (hb hby at_310) rfl ?_
        refine XS.dcmpS X246.here hx rfl (hb hby at_312) rfl rfl ?_
        refine XS.ifYes X246.here hx rfl (pc0 := 313) (pc' := 318) rfl (hb hby at_313) rfl (XT.i0_eq_t (own_t2 (own_rv p1 own_opos) own_opos own_ole)) (by decide) (by decide) ?_
        show oS p e below T246 (mkF m 318 #[iv p0, iv p1, iv p2, iv p3, iv p0, rv aE, iv own_o, iv (own_r p1 own_o), iv (own_r p2 own_o), rv b191, rv b198, .val (.double (FP.ddiv (FP.i2d (own_r p1 own_o)) (FP.i2d own_o))), .second, .val (.double (FP.ddiv (FP.i2d (own_r p2 own_o)) (FP.i2d own_o))), .second, rv b238, .unset, .unset, .unset] []) _
        refine XS.iloadN X246.here hx rfl (hb hby at_318) rfl ?_
        refine XT.iconstV X246.here hx rfl (1 : Int32) (hb hby at_319) (by decide) ?_
        refine XT.iushr X246.here hx rfl (hb hby at_320) rfl ?_
        refine XT.bipushV X246.here hx rfl (31 : Int32) (hb hby at_321) (by decide) ?_
        refine XS.irem X246.here hx rfl (hb hby at_323) rfl (by decide) ?_
        show oS p e below T246 (mkF m 324 #[iv p0, iv p1, iv p2, iv p3, iv p0, rv aE, iv own_o, iv (own_r p1 own_o), iv (own_r p2 own_o), rv b191, rv b198, .val (.double (FP.ddiv (FP.i2d (own_r p1 own_o)) (FP.i2d own_o))), .second, .val (.double (FP.ddiv (FP.i2d (own_r p2 own_o)) (FP.i2d own_o))), .second, rv b238, .unset, .unset, .unset] [(.int ((XT.ushr p3 (1 : Int32)) - ((XT.ushr p3 (1 : Int32)) / (31 : Int32)) * (31 : Int32)))]) _
        skip
        show oS p e below T246 (mkF m 324 #[iv p0, iv p1, iv p2, iv p3, iv p0, rv aE, iv own_o, iv (own_r p1 own_o), iv (own_r p2 own_o), rv b191, rv b198, .val (.double (FP.ddiv (FP.i2d (own_r p1 own_o)) (FP.i2d own_o))), .second, .val (.double (FP.ddiv (FP.i2d (own_r p2 own_o)) (FP.i2d own_o))), .second, rv b238, .unset, .unset, .unset] [(.int (own_kk p3))]) _
        refine XS.istore X246.here hx rfl (hb hby at_324) rfl (l' := #[iv p0, iv p1, iv p2, iv p3, iv p0, rv aE, iv own_o, iv (own_r p1 own_o), iv (own_r p2 own_o), rv b191, rv b198, .val (.double (FP.ddiv (FP.i2d (own_r p1 own_o)) (FP.i2d own_o))), .second, .val (.double (FP.ddiv (FP.i2d (own_r p2 own_o)) (FP.i2d own_o))), .second, iv (own_kk p3), .unset, .unset, .unset]) rfl ?_
        refine XT.iconstV X246.here hx rfl (1 : Int32) (hb hby at_326) (by decide) ?_
        refine XS.iload X246.here hx rfl (hb hby at_327) rfl ?_
        refine XT.ishl X246.here hx rfl (hb hby at_329) rfl ?_
        show oS p e below T246 (mkF m 330 #[iv p0, iv p1, iv p2, iv p3, iv p0, rv aE, iv own_o, iv (own_r p1 own_o), iv (own_r p2 own_o), rv b191, rv b198, .val (.double (FP.ddiv (FP.i2d (own_r p1 own_o)) (FP.i2d own_o))), .second, .val (.double (FP.ddiv (FP.i2d (own_r p2 own_o)) (FP.i2d own_o))), .second, iv (own_kk p3), .unset, .unset, .unset] [(.int ((1 : Int32) <<< ((own_kk p3) &&& 31)))]) _
        show oS p e below T246 (mkF m 330 #[iv p0, iv p1, iv p2, iv p3, iv p0, rv aE, iv own_o, iv (own_r p1 own_o), iv (own_r p2 own_o), rv b191, rv b198, .val (.double (FP.ddiv (FP.i2d (own_r p1 own_o)) (FP.i2d own_o))), .second, .val (.double (FP.ddiv (FP.i2d (own_r p2 own_o)) (FP.i2d own_o))), .second, iv (own_kk p3), .unset, .unset, .unset] [(.int ((1 : Int32) <<< ((own_kk p3) &&& 31)))]) _
        skip
        show oS p e below T246 (mkF m 330 #[iv p0, iv p1, iv p2, iv p3, iv p0, rv aE, iv own_o, iv (own_r p1 own_o), iv (own_r p2 own_o), rv b191, rv b198, .val (.double (FP.ddiv (FP.i2d (own_r p1 own_o)) (FP.i2d own_o))), .second, .val (.double (FP.ddiv (FP.i2d (own_r p2 own_o)) (FP.i2d own_o))), .second, iv (own_kk p3), .unset, .unset, .unset] [(.int (own_pp p3))]) _
        refine XS.istore X246.here hx rfl (hb hby at_330) rfl (l' := #[iv p0, iv p1, iv p2, iv p3, iv p0, rv aE, iv own_o, iv (own_r p1 own_o), iv (own_r p2 own_o), rv b191, rv b198, .val (.double (FP.ddiv (FP.i2d (own_r p1 own_o)) (FP.i2d own_o))), .second, .val (.double (FP.ddiv (FP.i2d (own_r p2 own_o)) (FP.i2d own_o))), .second, iv (own_kk p3), iv (own_pp p3), .unset, .unset]) rfl ?_
        refine XS.iloadN X246.here hx rfl (hb hby at_332) rfl ?_
        refine X246.ldcI hx hown (mvT hZ (hw _ (own_w 51 rfl))) rfl (hb hby at_333) ?_
        refine XS.iand X246.here hx rfl (hb hby at_335) rfl ?_
        show oS p e below T246 (mkF m 336 #[iv p0, iv p1, iv p2, iv p3, iv p0, rv aE, iv own_o, iv (own_r p1 own_o), iv (own_r p2 own_o), rv b191, rv b198, .val (.double (FP.ddiv (FP.i2d (own_r p1 own_o)) (FP.i2d own_o))), .second, .val (.double (FP.ddiv (FP.i2d (own_r p2 own_o)) (FP.i2d own_o))), .second, iv (own_kk p3), iv (own_pp p3), .unset, .unset] [(.int (p2 &&& (2147483647 : Int32)))]) _
        skip
        show oS p e below T246 (mkF m 336 #[iv p0, iv p1, iv p2, iv p3, iv p0, rv aE, iv own_o, iv (own_r p1 own_o), iv (own_r p2 own_o), rv b191, rv b198, .val (.double (FP.ddiv (FP.i2d (own_r p1 own_o)) (FP.i2d own_o))), .second, .val (.double (FP.ddiv (FP.i2d (own_r p2 own_o)) (FP.i2d own_o))), .second, iv (own_kk p3), iv (own_pp p3), .unset, .unset] [(.int (own_m p2))]) _
        refine XT.i2l X246.here hx rfl (hb hby at_336) rfl ?_
        refine XS.iload X246.here hx rfl (hb hby at_337) rfl ?_
        refine XT.i2l X246.here hx rfl (hb hby at_339) rfl ?_
        refine XT.lconstV X246.here hx rfl (1 : Int64) (hb hby at_340) (by decide) ?_
        show oS p e below T246 (mkF m 341 #[iv p0, iv p1, iv p2, iv p3, iv p0, rv aE, iv own_o, iv (own_r p1 own_o), iv (own_r p2 own_o), rv b191, rv b198, .val (.double (FP.ddiv (FP.i2d (own_r p1 own_o)) (FP.i2d own_o))), .second, .val (.double (FP.ddiv (FP.i2d (own_r p2 own_o)) (FP.i2d own_o))), .second, iv (own_kk p3), iv (own_pp p3), .unset, .unset] [(.long 1), (.long ((own_pp p3)).toInt64), (.long ((own_m p2)).toInt64)]) _
        refine XT.ladd X246.here hx rfl (hb hby at_341) rfl ?_
        refine XT.lrem X246.here hx rfl (hb hby at_342) rfl (own_lnz (own_ppos p3)) ?_
        refine XT.l2i X246.here hx rfl (hb hby at_343) rfl ?_
        show oS p e below T246 (mkF m 344 #[iv p0, iv p1, iv p2, iv p3, iv p0, rv aE, iv own_o, iv (own_r p1 own_o), iv (own_r p2 own_o), rv b191, rv b198, .val (.double (FP.ddiv (FP.i2d (own_r p1 own_o)) (FP.i2d own_o))), .second, .val (.double (FP.ddiv (FP.i2d (own_r p2 own_o)) (FP.i2d own_o))), .second, iv (own_kk p3), iv (own_pp p3), .unset, .unset] [(.int ((((own_m p2)).toInt64 - (((own_m p2)).toInt64 / (((own_pp p3)).toInt64 + (1 : Int64))) * (((own_pp p3)).toInt64 + (1 : Int64)))).toInt32)]) _
        skip
        show oS p e below T246 (mkF m 344 #[iv p0, iv p1, iv p2, iv p3, iv p0, rv aE, iv own_o, iv (own_r p1 own_o), iv (own_r p2 own_o), rv b191, rv b198, .val (.double (FP.ddiv (FP.i2d (own_r p1 own_o)) (FP.i2d own_o))), .second, .val (.double (FP.ddiv (FP.i2d (own_r p2 own_o)) (FP.i2d own_o))), .second, iv (own_kk p3), iv (own_pp p3), .unset, .unset] [(.int (own_r p2 (own_pp p3)))]) _
        refine XS.istore X246.here hx rfl (hb hby at_344) rfl (l' := #[iv p0, iv p1, iv p2, iv p3, iv p0, rv aE, iv own_o, iv (own_r p1 own_o), iv (own_r p2 own_o), rv b191, rv b198, .val (.double (FP.ddiv (FP.i2d (own_r p1 own_o)) (FP.i2d own_o))), .second, .val (.double (FP.ddiv (FP.i2d (own_r p2 own_o)) (FP.i2d own_o))), .second, iv (own_kk p3), iv (own_pp p3), iv ((own_r p2 (own_pp p3))), .unset]) rfl ?_
        refine XS.iload X246.here hx rfl (hb hby at_346) rfl ?_
        refine XS.iload X246.here hx rfl (hb hby at_348) rfl ?_
        refine st247 _ ?_
        refine st255 _ ?_
        refine XS.astore X255.here hx rfl (hb hby at_356) rfl rfl (l' := #[iv p0, iv p1, iv p2, iv p3, iv p0, rv aE, iv own_o, iv (own_r p1 own_o), iv (own_r p2 own_o), rv b191, rv b198, .val (.double (FP.ddiv (FP.i2d (own_r p1 own_o)) (FP.i2d own_o))), .second, .val (.double (FP.ddiv (FP.i2d (own_r p2 own_o)) (FP.i2d own_o))), .second, iv (own_kk p3), iv (own_pp p3), iv ((own_r p2 (own_pp p3))), rv b255]) rfl ?_
        show oS p e below T255 (mkF m 358 #[iv p0, iv p1, iv p2, iv p3, iv p0, rv aE, iv own_o, iv (own_r p1 own_o), iv (own_r p2 own_o), rv b191, rv b198, .val (.double (FP.ddiv (FP.i2d (own_r p1 own_o)) (FP.i2d own_o))), .second, .val (.double (FP.ddiv (FP.i2d (own_r p2 own_o)) (FP.i2d own_o))), .second, iv (own_kk p3), iv (own_pp p3), iv ((own_r p2 (own_pp p3))), rv b255] []) _
        refine XS.aload X255.here hx rfl (hb hby at_358) rfl rfl ?_
        refine st264 _ ?_
        refine XS.ifYes X264.here hx rfl (pc0 := 363) (pc' := 368) rfl (hb hby at_363) rfl (XT.i0_ne_t (by decide)) (by decide) (by decide) ?_
        refine XS.aload X264.here hx rfl (hb hby at_368) rfl rfl ?_
        refine st265 _ ?_
        refine XS.iload X265.here hx rfl (hb hby at_373) rfl ?_
        refine XS.i2dS X265.here hx rfl (hb hby at_375) rfl rfl ?_
        refine XS.dmulS X265.here hx rfl (hb hby at_376) rfl (Jvm.Free.Fl.val64_no.mpr (Own.own_nnI (own_bk p2 p3))) rfl ?_
        refine XS.iload X265.here hx rfl (hb hby at_377) rfl ?_
        refine XS.i2dS X265.here hx rfl (hb hby at_379) rfl rfl ?_
        show oS p e below T265 (mkF m 380 #[iv p0, iv p1, iv p2, iv p3, iv p0, rv aE, iv own_o, iv (own_r p1 own_o), iv (own_r p2 own_o), rv b191, rv b198, .val (.double (FP.ddiv (FP.i2d (own_r p1 own_o)) (FP.i2d own_o))), .second, .val (.double (FP.ddiv (FP.i2d (own_r p2 own_o)) (FP.i2d own_o))), .second, iv (own_kk p3), iv (own_pp p3), iv ((own_r p2 (own_pp p3))), rv b255] [(.double (FP.i2d (own_r p2 (own_pp p3)))), (.double (FP.dmul (FP.ddiv (FP.i2d (own_r p2 (own_pp p3))) (FP.i2d (own_pp p3))) (FP.i2d (own_pp p3))))]) _
        refine XS.dcmpS X265.here hx rfl (hb hby at_380) rfl rfl ?_
        refine XS.ifNo X265.here hx rfl (hb hby at_381) rfl (XT.i0_ne_f (own_e0 (Own.own_cmpI (own_bk p2 p3) (Jvm.FP.Core.i2d_int _)))) ?_
        refine XT.iconstV X265.here hx rfl (1 : Int32) (hb hby at_384) (by decide) ?_
        refine XS.goto X265.here hx rfl (pc0 := 385) (pc' := 389) rfl (hb hby at_385) (by decide) (by decide) ?_
        exact kz)
      obtain ⟨fs, hr, hrun, hended, hW, hsame⟩ := X265.leave (v := some (.int 1)) (fun h => by rw [Bd.returns] at h; cases h)
      refine ⟨_, _, pre0 _ (S266 _ ?_), hrun, hended, _, _, rfl, ?_, ⟨_, rfl⟩, hW, hsame.mono (by decide) (by decide)⟩
      · exact retN X265 hx (t := .boolean) Bd.returns (by simp) (hb hby at_389) hr
      · show Qrm0 Z p0 p1 p2 p3 aE h0 n0 _ T265.heap _
        rw [e265]
        exact ⟨rfl, N265⟩
    · obtain ⟨_, T267, Lc267, X267, hQ267, st267⟩ := own_callS (W := 0) (y := mN7) X0 hx hZ hown (hw _ (own_w 0 rfl)) (hw _ (own_w 1 rfl)) (hw _ (own_w 2 rfl)) (hw _ (own_w 3 rfl)) (by decide) (rmMk l Z av0 hw [] p0 p1 h0 n0 Z0 ) (by decide) (by decide) (g := (mkF m 16 #[iv p0, iv p1, iv p2, iv p3, iv p0, .unset, .unset, .unset, .unset, .unset, .unset, .unset, .unset, .unset, .unset, .unset, .unset, .unset, .unset] [(.int p1), (.int p0)])) rfl (by rw [hml]; rfl) (argsL := [(.int p0), (.int p1)]) (rest := []) (lenOf pd__II_Lcom_example_graftwork_graftwork_simulate_Summary_ rfl) rfl (hb hby at_16) rfl e0 (by decide : 0 + 1 ≤ _) (by decide : 0 + 8 ≤ _)
      obtain ⟨b267, rfl, N267q, gb267, K267, E267, Fa267, Fc267⟩ := hQ267
      have N267 := Fr.app N0 N267q
      have e267 : T267.heap = T267.heap := rfl
      have ne_aE_b267 : aE ≠ b267 := Nat.ne_of_lt (Nat.lt_of_lt_of_le hEE.lt gb267)
      have ge_b267 : n0 ≤ b267 := Nat.le_trans Z0 gb267
      have sz_b267 : h0.size ≤ b267 := gb267
      have Zk267 : n0 ≤ T267.heap.size := Nat.le_trans Z0 K267.1
      have Kk267 : Keep h0 T267.heap [] := (Keep.refl h0 []).trans K267 all0
      obtain ⟨_, T268, Lc268, X268, hQ268, st268⟩ := own_virtual (W := 0) (y := mN8) (z := mN8) X267 hx hZ hown (hw _ (own_w 34 rfl)) (hw _ (own_w 35 rfl)) (notFace_of_selects (args := #[]) (mvT hZ (hw _ (own_w 37 rfl)))) (hw _ (own_w 37 rfl)) (hw _ (own_w 36 rfl)) (hw _ (own_w 38 rfl)) (hw _ (own_w 6 rfl)) (by decide) (rmRatP l Z av0 hw [] b267 p0 p1 T267.heap n0 Zk267 Fa267 Fc267 hf13_183) (by decide) (by decide) E267 (g := (mkF m 19 #[iv p0, iv p1, iv p2, iv p3, iv p0, .unset, .unset, .unset, .unset, .unset, .unset, .unset, .unset, .unset, .unset, .unset, .unset, .unset, .unset] [(.ref b267)])) rfl (by rw [hml]; rfl) (argsL := []) (rest := []) (lenOf pd__Ljava_util_OptionalDouble_ rfl) rfl (hb hby at_19) rfl e267 (by decide : 1 + 1 ≤ _) (by decide : 8 + 2 ≤ _)
      obtain ⟨b268, rfl, N268q, gb268, K268, E268, I268, V268⟩ := hQ268
      have N268 := Fr.app N267 N268q
      have e268 : T268.heap = T268.heap := rfl
      have f269 := (hEE.keep K267)
      have ne_aE_b268 : aE ≠ b268 := Nat.ne_of_lt (Nat.lt_of_lt_of_le f269.lt gb268)
      have ne_b267_b268 : b267 ≠ b268 := Nat.ne_of_lt (Nat.lt_of_lt_of_le E267.lt gb268)
      have ge_b268 : n0 ≤ b268 := Nat.le_trans Zk267 gb268
      have sz_b268 : h0.size ≤ b268 := Nat.le_trans Kk267.1 gb268
      have Zk268 : n0 ≤ T268.heap.size := Nat.le_trans Zk267 K268.1
      have Kk268 : Keep h0 T268.heap [] := Kk267.trans K268 all0
      obtain ⟨_, T270, Lc270, X270, hQ270, st270⟩ := own_virtual (W := 0) (y := mN3) (z := mN3) X268 hx hZ hown (hw _ (own_w 44 rfl)) (hw _ (own_w 45 rfl)) (notFace_of_selects (args := #[]) (mvT hZ (hw _ (own_w 47 rfl)))) (hw _ (own_w 47 rfl)) (hw _ (own_w 46 rfl)) (hw _ (own_w 48 rfl)) (hw _ (own_w 41 rfl)) (by decide) (rmIs1 l Z av0 hw [] b268 T268.heap n0 Zk268 I268) (by decide) (by decide) E268 (g := (mkF m 26 #[iv p0, iv p1, iv p2, iv p3, iv p0, rv b268, .unset, .unset, .unset, .unset, .unset, .unset, .unset, .unset, .unset, .unset, .unset, .unset, .unset] [(.ref b268)])) rfl (by rw [hml]; rfl) (argsL := []) (rest := []) (lenOf pd__Z rfl) rfl (hb hby at_26) rfl e268 (by decide : 2 + 0 ≤ _) (by decide : 10 + 0 ≤ _)
      obtain ⟨rfl, N270q, hh270⟩ := hQ270
      have N270 := Fr.app N268 N270q
      have e270 : T270.heap = T268.heap := hh270
      have S271 : ∀ tz, oS p e below T270 (mkF m 52 #[iv p0, iv p1, iv p2, iv p3, iv p0, rv b268, iv (own_m p0), .unset, .unset, .unset, .unset, .unset, .unset, .unset, .unset, .unset, .unset, .unset, .unset] [(.int (own_m p0))]) tz → oS p e below s₁ (mkF m 0 #[iv p0, iv p1, iv p2, iv p3, .unset, .unset, .unset, .unset, .unset, .unset, .unset, .unset, .unset, .unset, .unset, .unset, .unset, .unset, .unset] []) tz := fun tz kz => S182 tz (by
        show oS p e below s₁ (mkF m 13 #[iv p0, iv p1, iv p2, iv p3, iv p0, .unset, .unset, .unset, .unset, .unset, .unset, .unset, .unset, .unset, .unset, .unset, .unset, .unset, .unset] []) _
        refine XS.iload X0.here hx rfl (hb hby at_13) rfl ?_
        refine XS.iloadN X0.here hx rfl (hb hby at_15) rfl ?_
        refine st267 _ ?_
        refine st268 _ ?_
        show oS p e below T268 (mkF m 22 #[iv p0, iv p1, iv p2, iv p3, iv p0, .unset, .unset, .unset, .unset, .unset, .unset, .unset, .unset, .unset, .unset, .unset, .unset, .unset, .unset] [(.ref b268)]) _
        refine XS.astore X268.here hx rfl (hb hby at_22) rfl rfl (l' := #[iv p0, iv p1, iv p2, iv p3, iv p0, rv b268, .unset, .unset, .unset, .unset, .unset, .unset, .unset, .unset, .unset, .unset, .unset, .unset, .unset]) rfl ?_
        refine XS.aload X268.here hx rfl (hb hby at_24) rfl rfl ?_
        refine st270 _ ?_
        refine XS.iload X270.here hx rfl (hb hby at_29) rfl ?_
        refine XS.ifNo X270.here hx rfl (hb hby at_31) rfl (XT.i0_eq_f hf13_183) ?_
        refine XT.iconstV X270.here hx rfl (1 : Int32) (hb hby at_34) (by decide) ?_
        refine XS.goto X270.here hx rfl (pc0 := 35) (pc' := 39) rfl (hb hby at_35) (by decide) (by decide) ?_
        refine XS.icmpYes X270.here hx rfl (pc0 := 39) (pc' := 44) rfl (hb hby at_39) rfl (XT.ii_eq_t (by decide)) (by decide) (by decide) ?_
        refine XS.iloadN X270.here hx rfl (hb hby at_44) rfl ?_
        refine X270.ldcI hx hown (mvT hZ (hw _ (own_w 51 rfl))) rfl (hb hby at_45) ?_
        show oS p e below T270 (mkF m 47 #[iv p0, iv p1, iv p2, iv p3, iv p0, rv b268, .unset, .unset, .unset, .unset, .unset, .unset, .unset, .unset, .unset, .unset, .unset, .unset, .unset] [(.int 2147483647), (.int p0)]) _
        refine XS.iand X270.here hx rfl (hb hby at_47) rfl ?_
        show oS p e below T270 (mkF m 48 #[iv p0, iv p1, iv p2, iv p3, iv p0, rv b268, .unset, .unset, .unset, .unset, .unset, .unset, .unset, .unset, .unset, .unset, .unset, .unset, .unset] [(.int (p0 &&& (2147483647 : Int32)))]) _
        skip
        show oS p e below T270 (mkF m 48 #[iv p0, iv p1, iv p2, iv p3, iv p0, rv b268, .unset, .unset, .unset, .unset, .unset, .unset, .unset, .unset, .unset, .unset, .unset, .unset, .unset] [(.int (own_m p0))]) _
        refine XS.istore X270.here hx rfl (hb hby at_48) rfl (l' := #[iv p0, iv p1, iv p2, iv p3, iv p0, rv b268, iv (own_m p0), .unset, .unset, .unset, .unset, .unset, .unset, .unset, .unset, .unset, .unset, .unset, .unset]) rfl ?_
        refine XS.iload X270.here hx rfl (hb hby at_50) rfl ?_
        exact kz)
      by_cases hc52_272 : (own_m p0) = (0 : Int32)
      · obtain ⟨_, T273, Lc273, X273, hQ273, st273⟩ := own_callS (W := 0) (y := mN7) X270 hx hZ hown (hw _ (own_w 0 rfl)) (hw _ (own_w 1 rfl)) (hw _ (own_w 2 rfl)) (hw _ (own_w 3 rfl)) (by decide) (rmMk l Z av0 hw [] own_o (own_r p1 own_o) T268.heap n0 Zk268 ) (by decide) (by decide) (g := (mkF m 90 #[iv p0, iv p1, iv p2, iv p3, iv p0, rv b268, iv own_o, iv (own_r p1 own_o), iv (own_r p2 own_o), .unset, .unset, .unset, .unset, .unset, .unset, .unset, .unset, .unset, .unset] [(.int (own_r p1 own_o)), (.int own_o)])) rfl (by rw [hml]; rfl) (argsL := [(.int own_o), (.int (own_r p1 own_o))]) (rest := []) (lenOf pd__II_Lcom_example_graftwork_graftwork_simulate_Summary_ rfl) rfl (hb hby at_90) rfl e270 (by decide : 2 + 1 ≤ _) (by decide : 10 + 8 ≤ _)
        obtain ⟨b273, rfl, N273q, gb273, K273, E273, Fa273, Fc273⟩ := hQ273
        have N273 := Fr.app N270 N273q
        have e273 : T273.heap = T273.heap := rfl
        have f274 := (f269.keep K268)
        have ne_aE_b273 : aE ≠ b273 := Nat.ne_of_lt (Nat.lt_of_lt_of_le f274.lt gb273)
        have f275 := (E267.keep K268)
        have ne_b267_b273 : b267 ≠ b273 := Nat.ne_of_lt (Nat.lt_of_lt_of_le f275.lt gb273)
        have ne_b268_b273 : b268 ≠ b273 := Nat.ne_of_lt (Nat.lt_of_lt_of_le E268.lt gb273)
        have ge_b273 : n0 ≤ b273 := Nat.le_trans Zk268 gb273
        have sz_b273 : h0.size ≤ b273 := Nat.le_trans Kk268.1 gb273
        have Zk273 : n0 ≤ T273.heap.size := Nat.le_trans Zk268 K273.1
        have Kk273 : Keep h0 T273.heap [] := Kk268.trans K273 all0
        obtain ⟨_, T276, Lc276, X276, hQ276, st276⟩ := own_virtual (W := 0) (y := mN8) (z := mN8) X273 hx hZ hown (hw _ (own_w 34 rfl)) (hw _ (own_w 35 rfl)) (notFace_of_selects (args := #[]) (mvT hZ (hw _ (own_w 37 rfl)))) (hw _ (own_w 37 rfl)) (hw _ (own_w 36 rfl)) (hw _ (own_w 38 rfl)) (hw _ (own_w 6 rfl)) (by decide) (rmRatP l Z av0 hw [] b273 own_o (own_r p1 own_o) T273.heap n0 Zk273 Fa273 Fc273 (own_pnz own_opos)) (by decide) (by decide) E273 (g := (mkF m 93 #[iv p0, iv p1, iv p2, iv p3, iv p0, rv b268, iv own_o, iv (own_r p1 own_o), iv (own_r p2 own_o), .unset, .unset, .unset, .unset, .unset, .unset, .unset, .unset, .unset, .unset] [(.ref b273)])) rfl (by rw [hml]; rfl) (argsL := []) (rest := []) (lenOf pd__Ljava_util_OptionalDouble_ rfl) rfl (hb hby at_93) rfl e273 (by decide : 3 + 1 ≤ _) (by decide : 18 + 2 ≤ _)
        obtain ⟨b276, rfl, N276q, gb276, K276, E276, I276, V276⟩ := hQ276
        have N276 := Fr.app N273 N276q
        have e276 : T276.heap = T276.heap := rfl
        have f277 := (f274.keep K273)
        have ne_aE_b276 : aE ≠ b276 := Nat.ne_of_lt (Nat.lt_of_lt_of_le f277.lt gb276)
        have f278 := (f275.keep K273)
        have ne_b267_b276 : b267 ≠ b276 := Nat.ne_of_lt (Nat.lt_of_lt_of_le f278.lt gb276)
        have f279 := (E268.keep K273)
        have ne_b268_b276 : b268 ≠ b276 := Nat.ne_of_lt (Nat.lt_of_lt_of_le f279.lt gb276)
        have ne_b273_b276 : b273 ≠ b276 := Nat.ne_of_lt (Nat.lt_of_lt_of_le E273.lt gb276)
        have ge_b276 : n0 ≤ b276 := Nat.le_trans Zk273 gb276
        have sz_b276 : h0.size ≤ b276 := Nat.le_trans Kk273.1 gb276
        have Zk276 : n0 ≤ T276.heap.size := Nat.le_trans Zk273 K276.1
        have Kk276 : Keep h0 T276.heap [] := Kk273.trans K276 all0
        obtain ⟨_, T280, Lc280, X280, hQ280, st280⟩ := own_callS (W := 0) (y := mN7) X276 hx hZ hown (hw _ (own_w 0 rfl)) (hw _ (own_w 1 rfl)) (hw _ (own_w 2 rfl)) (hw _ (own_w 3 rfl)) (by decide) (rmMk l Z av0 hw [] own_o (own_r p2 own_o) T276.heap n0 Zk276 ) (by decide) (by decide) (g := (mkF m 102 #[iv p0, iv p1, iv p2, iv p3, iv p0, rv b268, iv own_o, iv (own_r p1 own_o), iv (own_r p2 own_o), rv b276, .unset, .unset, .unset, .unset, .unset, .unset, .unset, .unset, .unset] [(.int (own_r p2 own_o)), (.int own_o)])) rfl (by rw [hml]; rfl) (argsL := [(.int own_o), (.int (own_r p2 own_o))]) (rest := []) (lenOf pd__II_Lcom_example_graftwork_graftwork_simulate_Summary_ rfl) rfl (hb hby at_102) rfl e276 (by decide : 4 + 1 ≤ _) (by decide : 20 + 8 ≤ _)
        obtain ⟨b280, rfl, N280q, gb280, K280, E280, Fa280, Fc280⟩ := hQ280
        have N280 := Fr.app N276 N280q
        have e280 : T280.heap = T280.heap := rfl
        have f281 := (f277.keep K276)
        have ne_aE_b280 : aE ≠ b280 := Nat.ne_of_lt (Nat.lt_of_lt_of_le f281.lt gb280)
        have f282 := (f278.keep K276)
        have ne_b267_b280 : b267 ≠ b280 := Nat.ne_of_lt (Nat.lt_of_lt_of_le f282.lt gb280)
        have f283 := (f279.keep K276)
        have ne_b268_b280 : b268 ≠ b280 := Nat.ne_of_lt (Nat.lt_of_lt_of_le f283.lt gb280)
        have f284 := (E273.keep K276)
        have ne_b273_b280 : b273 ≠ b280 := Nat.ne_of_lt (Nat.lt_of_lt_of_le f284.lt gb280)
        have ne_b276_b280 : b276 ≠ b280 := Nat.ne_of_lt (Nat.lt_of_lt_of_le E276.lt gb280)
        have ge_b280 : n0 ≤ b280 := Nat.le_trans Zk276 gb280
        have sz_b280 : h0.size ≤ b280 := Nat.le_trans Kk276.1 gb280
        have Zk280 : n0 ≤ T280.heap.size := Nat.le_trans Zk276 K280.1
        have Kk280 : Keep h0 T280.heap [] := Kk276.trans K280 all0
        obtain ⟨_, T285, Lc285, X285, hQ285, st285⟩ := own_virtual (W := 0) (y := mN8) (z := mN8) X280 hx hZ hown (hw _ (own_w 34 rfl)) (hw _ (own_w 35 rfl)) (notFace_of_selects (args := #[]) (mvT hZ (hw _ (own_w 37 rfl)))) (hw _ (own_w 37 rfl)) (hw _ (own_w 36 rfl)) (hw _ (own_w 38 rfl)) (hw _ (own_w 6 rfl)) (by decide) (rmRatP l Z av0 hw [] b280 own_o (own_r p2 own_o) T280.heap n0 Zk280 Fa280 Fc280 (own_pnz own_opos)) (by decide) (by decide) E280 (g := (mkF m 105 #[iv p0, iv p1, iv p2, iv p3, iv p0, rv b268, iv own_o, iv (own_r p1 own_o), iv (own_r p2 own_o), rv b276, .unset, .unset, .unset, .unset, .unset, .unset, .unset, .unset, .unset] [(.ref b280)])) rfl (by rw [hml]; rfl) (argsL := []) (rest := []) (lenOf pd__Ljava_util_OptionalDouble_ rfl) rfl (hb hby at_105) rfl e280 (by decide : 5 + 1 ≤ _) (by decide : 28 + 2 ≤ _)
        obtain ⟨b285, rfl, N285q, gb285, K285, E285, I285, V285⟩ := hQ285
        have N285 := Fr.app N280 N285q
        have e285 : T285.heap = T285.heap := rfl
        have f286 := (f281.keep K280)
        have ne_aE_b285 : aE ≠ b285 := Nat.ne_of_lt (Nat.lt_of_lt_of_le f286.lt gb285)
        have f287 := (f282.keep K280)
        have ne_b267_b285 : b267 ≠ b285 := Nat.ne_of_lt (Nat.lt_of_lt_of_le f287.lt gb285)
        have f288 := (f283.keep K280)
        have ne_b268_b285 : b268 ≠ b285 := Nat.ne_of_lt (Nat.lt_of_lt_of_le f288.lt gb285)
        have f289 := (f284.keep K280)
        have ne_b273_b285 : b273 ≠ b285 := Nat.ne_of_lt (Nat.lt_of_lt_of_le f289.lt gb285)
        have f290 := (E276.keep K280)
        have ne_b276_b285 : b276 ≠ b285 := Nat.ne_of_lt (Nat.lt_of_lt_of_le f290.lt gb285)
        have ne_b280_b285 : b280 ≠ b285 := Nat.ne_of_lt (Nat.lt_of_lt_of_le E280.lt gb285)
        have ge_b285 : n0 ≤ b285 := Nat.le_trans Zk280 gb285
        have sz_b285 : h0.size ≤ b285 := Nat.le_trans Kk280.1 gb285
        have Zk285 : n0 ≤ T285.heap.size := Nat.le_trans Zk280 K285.1
        have Kk285 : Keep h0 T285.heap [] := Kk280.trans K285 all0
        have f291 := ((I276.keep K280 nin0).keep K285 nin0)
        have f293 := (f290.keep K285)
        obtain ⟨_, T292, Lc292, X292, hQ292, st292⟩ := own_virtual (W := 0) (y := mN3) (z := mN3) X285 hx hZ hown (hw _ (own_w 44 rfl)) (hw _ (own_w 45 rfl)) (notFace_of_selects (args := #[]) (mvT hZ (hw _ (own_w 47 rfl)))) (hw _ (own_w 47 rfl)) (hw _ (own_w 46 rfl)) (hw _ (own_w 48 rfl)) (hw _ (own_w 41 rfl)) (by decide) (rmIs1 l Z av0 hw [] b276 T285.heap n0 Zk285 f291) (by decide) (by decide) f293 (g := (mkF m 112 #[iv p0, iv p1, iv p2, iv p3, iv p0, rv b268, iv own_o, iv (own_r p1 own_o), iv (own_r p2 own_o), rv b276, rv b285, .unset, .unset, .unset, .unset, .unset, .unset, .unset, .unset] [(.ref b276)])) rfl (by rw [hml]; rfl) (argsL := []) (rest := []) (lenOf pd__Z rfl) rfl (hb hby at_112) rfl e285 (by decide : 6 + 0 ≤ _) (by decide : 30 + 0 ≤ _)
        obtain ⟨rfl, N292q, hh292⟩ := hQ292
        have N292 := Fr.app N285 N292q
        have e292 : T292.heap = T285.heap := hh292
        obtain ⟨_, T294, Lc294, X294, hQ294, st294⟩ := own_virtual (W := 0) (y := mN3) (z := mN3) X292 hx hZ hown (hw _ (own_w 44 rfl)) (hw _ (own_w 45 rfl)) (notFace_of_selects (args := #[]) (mvT hZ (hw _ (own_w 47 rfl)))) (hw _ (own_w 47 rfl)) (hw _ (own_w 46 rfl)) (hw _ (own_w 48 rfl)) (hw _ (own_w 41 rfl)) (by decide) (rmIs1 l Z av0 hw [] b285 T285.heap n0 Zk285 I285) (by decide) (by decide) E285 (g := (mkF m 120 #[iv p0, iv p1, iv p2, iv p3, iv p0, rv b268, iv own_o, iv (own_r p1 own_o), iv (own_r p2 own_o), rv b276, rv b285, .unset, .unset, .unset, .unset, .unset, .unset, .unset, .unset] [(.ref b285)])) rfl (by rw [hml]; rfl) (argsL := []) (rest := []) (lenOf pd__Z rfl) rfl (hb hby at_120) rfl e292 (by decide : 6 + 0 ≤ _) (by decide : 30 + 0 ≤ _)
        obtain ⟨rfl, N294q, hh294⟩ := hQ294
        have N294 := Fr.app N292 N294q
        have e294 : T294.heap = T285.heap := hh294
        have f295 := ((V276.keep K280 nin0).keep K285 nin0)
        obtain ⟨_, T296, Lc296, X296, hQ296, st296⟩ := own_virtual (W := 0) (y := mN4) (z := mN4) X294 hx hZ hown (hw _ (own_w 64 rfl)) (hw _ (own_w 65 rfl)) (notFace_of_selects (args := #[]) (mvT hZ (hw _ (own_w 67 rfl)))) (hw _ (own_w 67 rfl)) (hw _ (own_w 66 rfl)) (hw _ (own_w 68 rfl)) (hw _ (own_w 41 rfl)) (by decide) (rmGet l Z av0 hw [] b276 (FP.ddiv (FP.i2d (own_r p1 own_o)) (FP.i2d own_o)) T285.heap n0 Zk285 f291 f295) (by decide) (by decide) f293 (g := (mkF m 130 #[iv p0, iv p1, iv p2, iv p3, iv p0, rv b268, iv own_o, iv (own_r p1 own_o), iv (own_r p2 own_o), rv b276, rv b285, .unset, .unset, .unset, .unset, .unset, .unset, .unset, .unset] [(.ref b276)])) rfl (by rw [hml]; rfl) (argsL := []) (rest := []) (lenOf pd__D rfl) rfl (hb hby at_130) rfl e294 (by decide : 6 + 0 ≤ _) (by decide : 30 + 0 ≤ _)
        obtain ⟨rfl, N296q, hh296⟩ := hQ296
        have N296 := Fr.app N294 N296q
        have e296 : T296.heap = T285.heap := hh296
        obtain ⟨_, T297, Lc297, X297, hQ297, st297⟩ := own_virtual (W := 0) (y := mN4) (z := mN4) X296 hx hZ hown (hw _ (own_w 64 rfl)) (hw _ (own_w 65 rfl)) (notFace_of_selects (args := #[]) (mvT hZ (hw _ (own_w 67 rfl)))) (hw _ (own_w 67 rfl)) (hw _ (own_w 66 rfl)) (hw _ (own_w 68 rfl)) (hw _ (own_w 41 rfl)) (by decide) (rmGet l Z av0 hw [] b285 (FP.ddiv (FP.i2d (own_r p2 own_o)) (FP.i2d own_o)) T285.heap n0 Zk285 I285 V285) (by decide) (by decide) E285 (g := (mkF m 137 #[iv p0, iv p1, iv p2, iv p3, iv p0, rv b268, iv own_o, iv (own_r p1 own_o), iv (own_r p2 own_o), rv b276, rv b285, .val (.double (FP.ddiv (FP.i2d (own_r p1 own_o)) (FP.i2d own_o))), .second, .unset, .unset, .unset, .unset, .unset, .unset] [(.ref b285)])) rfl (by rw [hml]; rfl) (argsL := []) (rest := []) (lenOf pd__D rfl) rfl (hb hby at_137) rfl e296 (by decide : 6 + 0 ≤ _) (by decide : 30 + 0 ≤ _)
        obtain ⟨rfl, N297q, hh297⟩ := hQ297
        have N297 := Fr.app N296 N297q
        have e297 : T297.heap = T285.heap := hh297
        have S298 : ∀ tz, oS p e below T297 (mkF m 142 #[iv p0, iv p1, iv p2, iv p3, iv p0, rv b268, iv own_o, iv (own_r p1 own_o), iv (own_r p2 own_o), rv b276, rv b285, .val (.double (FP.ddiv (FP.i2d (own_r p1 own_o)) (FP.i2d own_o))), .second, .val (.double (FP.ddiv (FP.i2d (own_r p2 own_o)) (FP.i2d own_o))), .second, .unset, .unset, .unset, .unset] []) tz → oS p e below s₁ (mkF m 0 #[iv p0, iv p1, iv p2, iv p3, .unset, .unset, .unset, .unset, .unset, .unset, .unset, .unset, .unset, .unset, .unset, .unset, .unset, .unset, .unset] []) tz := fun tz kz => S271 tz (by
          show oS p e below T270 (mkF m 52 #[iv p0, iv p1, iv p2, iv p3, iv p0, rv b268, iv (own_m p0), .unset, .unset, .unset, .unset, .unset, .unset, .unset, .unset, .unset, .unset, .unset, .unset] [(.int (own_m p0))]) _
          refine XS.ifNo X270.here hx rfl (hb hby at_52) rfl (XT.i0_ne_f hc52_272) ?_
          refine XT.iconstV X270.here hx rfl (1 : Int32) (hb hby at_55) (by decide) ?_
          show oS p e below T270 (mkF m 56 #[iv p0, iv p1, iv p2, iv p3, iv p0, rv b268, iv (own_m p0), .unset, .unset, .unset, .unset, .unset, .unset, .unset, .unset, .unset, .unset, .unset, .unset] [(.int 1)]) _
          skip
          show oS p e below T270 (mkF m 56 #[iv p0, iv p1, iv p2, iv p3, iv p0, rv b268, iv (own_m p0), .unset, .unset, .unset, .unset, .unset, .unset, .unset, .unset, .unset, .unset, .unset, .unset] [(.int own_o)]) _
          refine XS.istore X270.here hx rfl (hb hby at_56) rfl (l' := #[iv p0, iv p1, iv p2, iv p3, iv p0, rv b268, iv own_o, .unset, .unset, .unset, .unset, .unset, .unset, .unset, .unset, .unset, .unset, .unset, .unset]) rfl ?_
          refine XS.iloadN X270.here hx rfl (hb hby at_58) rfl ?_
          refine X270.ldcI hx hown (mvT hZ (hw _ (own_w 51 rfl))) rfl (hb hby at_59) ?_
          show oS p e below T270 (mkF m 61 #[iv p0, iv p1, iv p2, iv p3, iv p0, rv b268, iv own_o, .unset, .unset, .unset, .unset, .unset, .unset, .unset, .unset, .unset, .unset, .unset, .unset] [(.int 2147483647), (.int p1)]) _
          refine XS.iand X270.here hx rfl (hb hby at_61) rfl ?_
          show oS p e below T270 (mkF m 62 #[iv p0, iv p1, iv p2, iv p3, iv p0, rv b268, iv own_o, .unset, .unset, .unset, .unset, .unset, .unset, .unset, .unset, .unset, .unset, .unset, .unset] [(.int (p1 &&& (2147483647 : Int32)))]) _
          skip
          show oS p e below T270 (mkF m 62 #[iv p0, iv p1, iv p2, iv p3, iv p0, rv b268, iv own_o, .unset, .unset, .unset, .unset, .unset, .unset, .unset, .unset, .unset, .unset, .unset, .unset] [(.int (own_m p1))]) _
          refine XT.i2l X270.here hx rfl (hb hby at_62) rfl ?_
          refine XS.iload X270.here hx rfl (hb hby at_63) rfl ?_
          refine XT.i2l X270.here hx rfl (hb hby at_65) rfl ?_
          refine XT.lconstV X270.here hx rfl (1 : Int64) (hb hby at_66) (by decide) ?_
          refine XT.ladd X270.here hx rfl (hb hby at_67) rfl ?_
          refine XT.lrem X270.here hx rfl (hb hby at_68) rfl (own_lnz own_opos) ?_
          refine XT.l2i X270.here hx rfl (hb hby at_69) rfl ?_
          show oS p e below T270 (mkF m 70 #[iv p0, iv p1, iv p2, iv p3, iv p0, rv b268, iv own_o, .unset, .unset, .unset, .unset, .unset, .unset, .unset, .unset, .unset, .unset, .unset, .unset] [(.int ((((own_m p1)).toInt64 - (((own_m p1)).toInt64 / ((own_o).toInt64 + (1 : Int64))) * ((own_o).toInt64 + (1 : Int64)))).toInt32)]) _
          skip
          show oS p e below T270 (mkF m 70 #[iv p0, iv p1, iv p2, iv p3, iv p0, rv b268, iv own_o, .unset, .unset, .unset, .unset, .unset, .unset, .unset, .unset, .unset, .unset, .unset, .unset] [(.int (own_r p1 own_o))]) _
          refine XS.istore X270.here hx rfl (hb hby at_70) rfl (l' := #[iv p0, iv p1, iv p2, iv p3, iv p0, rv b268, iv own_o, iv (own_r p1 own_o), .unset, .unset, .unset, .unset, .unset, .unset, .unset, .unset, .unset, .unset, .unset]) rfl ?_
          refine XS.iloadN X270.here hx rfl (hb hby at_72) rfl ?_
          refine X270.ldcI hx hown (mvT hZ (hw _ (own_w 51 rfl))) rfl (hb hby at_73) ?_
          refine XS.iand X270.here hx rfl (hb hby at_75) rfl ?_
          show oS p e below T270 (mkF m 76 #[iv p0, iv p1, iv p2, iv p3, iv p0, rv b268, iv own_o, iv (own_r p1 own_o), .unset, .unset, .unset, .unset, .unset, .unset, .unset, .unset, .unset, .unset, .unset] [(.int (p2 &&& (2147483647 : Int32)))]) _
          skip
          show oS p e below T270 (mkF m 76 #[iv p0, iv p1, iv p2, iv p3, iv p0, rv b268, iv own_o, iv (own_r p1 own_o), .unset, .unset, .unset, .unset, .unset, .unset, .unset, .unset, .unset, .unset, .unset] [(.int (own_m p2))]) _
          refine XT.i2l X270.here hx rfl (hb hby at_76) rfl ?_
          refine XS.iload X270.here hx rfl (hb hby at_77) rfl ?_
          refine XT.i2l X270.here hx rfl (hb hby at_79) rfl ?_
          refine XT.lconstV X270.here hx rfl (1 : Int64) (hb hby at_80) (by decide) ?_
          refine XT.ladd X270.here hx rfl (hb hby at_81) rfl ?_
          show oS p e below T270 (mkF m 82 #[iv p0, iv p1, iv p2, iv p3, iv p0, rv b268, iv own_o, iv (own_r p1 own_o), .unset, .unset, .unset, .unset, .unset, .unset, .unset, .unset, .unset, .unset, .unset] [(.long ((own_o).toInt64 + (1 : Int64))), (.long ((own_m p2)).toInt64)]) _
          refine XT.lrem X270.here hx rfl (hb hby at_82) rfl (own_lnz own_opos) ?_
          refine XT.l2i X270.here hx rfl (hb hby at_83) rfl ?_
          show oS p e below T270 (mkF m 84 #[iv p0, iv p1, iv p2, iv p3, iv p0, rv b268, iv own_o, iv (own_r p1 own_o), .unset, .unset, .unset, .unset, .unset, .unset, .unset, .unset, .unset, .unset, .unset] [(.int ((((own_m p2)).toInt64 - (((own_m p2)).toInt64 / ((own_o).toInt64 + (1 : Int64))) * ((own_o).toInt64 + (1 : Int64)))).toInt32)]) _
          skip
          show oS p e below T270 (mkF m 84 #[iv p0, iv p1, iv p2, iv p3, iv p0, rv b268, iv own_o, iv (own_r p1 own_o), .unset, .unset, .unset, .unset, .unset, .unset, .unset, .unset, .unset, .unset, .unset] [(.int (own_r p2 own_o))]) _
          refine XS.istore X270.here hx rfl (hb hby at_84) rfl (l' := #[iv p0, iv p1, iv p2, iv p3, iv p0, rv b268, iv own_o, iv (own_r p1 own_o), iv (own_r p2 own_o), .unset, .unset, .unset, .unset, .unset, .unset, .unset, .unset, .unset, .unset]) rfl ?_
          refine XS.iload X270.here hx rfl (hb hby at_86) rfl ?_
          refine XS.iload X270.here hx rfl (hb hby at_88) rfl ?_
          refine st273 _ ?_
          refine st276 _ ?_
          refine XS.astore X276.here hx rfl (hb hby at_96) rfl rfl (l' := #[iv p0, iv p1, iv p2, iv p3, iv p0, rv b268, iv own_o, iv (own_r p1 own_o), iv (own_r p2 own_o), rv b276, .unset, .unset, .unset, .unset, .unset, .unset, .unset, .unset, .unset]) rfl ?_
          refine XS.iload X276.here hx rfl (hb hby at_98) rfl ?_
          show oS p e below T276 (mkF m 100 #[iv p0, iv p1, iv p2, iv p3, iv p0, rv b268, iv own_o, iv (own_r p1 own_o), iv (own_r p2 own_o), rv b276, .unset, .unset, .unset, .unset, .unset, .unset, .unset, .unset, .unset] [(.int own_o)]) _
          refine XS.iload X276.here hx rfl (hb hby at_100) rfl ?_
          refine st280 _ ?_
          refine st285 _ ?_
          refine XS.astore X285.here hx rfl (hb hby at_108) rfl rfl (l' := #[iv p0, iv p1, iv p2, iv p3, iv p0, rv b268, iv own_o, iv (own_r p1 own_o), iv (own_r p2 own_o), rv b276, rv b285, .unset, .unset, .unset, .unset, .unset, .unset, .unset, .unset]) rfl ?_
          refine XS.aload X285.here hx rfl (hb hby at_110) rfl rfl ?_
          refine st292 _ ?_
          refine XS.ifNo X292.here hx rfl (hb hby at_115) rfl (XT.i0_eq_f (by decide)) ?_
          refine XS.aload X292.here hx rfl (hb hby at_118) rfl rfl ?_
          refine st294 _ ?_
          refine XS.ifYes X294.here hx rfl (pc0 := 123) (pc' := 128) rfl (hb hby at_123) rfl (XT.i0_ne_t (by decide)) (by decide) (by decide) ?_
          show oS p e below T294 (mkF m 128 #[iv p0, iv p1, iv p2, iv p3, iv p0, rv b268, iv own_o, iv (own_r p1 own_o), iv (own_r p2 own_o), rv b276, rv b285, .unset, .unset, .unset, .unset, .unset, .unset, .unset, .unset] []) _
          refine XS.aload X294.here hx rfl (hb hby at_128) rfl rfl ?_
          refine st296 _ ?_
          refine XS.dstore X296.here hx rfl (hb hby at_133) rfl (l' := #[iv p0, iv p1, iv p2, iv p3, iv p0, rv b268, iv own_o, iv (own_r p1 own_o), iv (own_r p2 own_o), rv b276, rv b285, .val (.double (FP.ddiv (FP.i2d (own_r p1 own_o)) (FP.i2d own_o))), .second, .unset, .unset, .unset, .unset, .unset, .unset]) rfl ?_
          refine XS.aload X296.here hx rfl (hb hby at_135) rfl rfl ?_
          refine st297 _ ?_
          refine XS.dstore X297.here hx rfl (hb hby at_140) rfl (l' := #[iv p0, iv p1, iv p2, iv p3, iv p0, rv b268, iv own_o, iv (own_r p1 own_o), iv (own_r p2 own_o), rv b276, rv b285, .val (.double (FP.ddiv (FP.i2d (own_r p1 own_o)) (FP.i2d own_o))), .second, .val (.double (FP.ddiv (FP.i2d (own_r p2 own_o)) (FP.i2d own_o))), .second, .unset, .unset, .unset, .unset]) rfl ?_
          exact kz)
        have M299 : ∀ tz, oS p e below T297 (mkF m 158 #[iv p0, iv p1, iv p2, iv p3, iv p0, rv b268, iv own_o, iv (own_r p1 own_o), iv (own_r p2 own_o), rv b276, rv b285, .val (.double (FP.ddiv (FP.i2d (own_r p1 own_o)) (FP.i2d own_o))), .second, .val (.double (FP.ddiv (FP.i2d (own_r p2 own_o)) (FP.i2d own_o))), .second, .unset, .unset, .unset, .unset] []) tz → oS p e below T297 (mkF m 142 #[iv p0, iv p1, iv p2, iv p3, iv p0, rv b268, iv own_o, iv (own_r p1 own_o), iv (own_r p2 own_o), rv b276, rv b285, .val (.double (FP.ddiv (FP.i2d (own_r p1 own_o)) (FP.i2d own_o))), .second, .val (.double (FP.ddiv (FP.i2d (own_r p2 own_o)) (FP.i2d own_o))), .second, .unset, .unset, .unset, .unset] []) tz := by
          intro tz kz
          have S300 : ∀ tz, oS p e below T297 (mkF m 158 #[iv p0, iv p1, iv p2, iv p3, iv p0, rv b268, iv own_o, iv (own_r p1 own_o), iv (own_r p2 own_o), rv b276, rv b285, .val (.double (FP.ddiv (FP.i2d (own_r p1 own_o)) (FP.i2d own_o))), .second, .val (.double (FP.ddiv (FP.i2d (own_r p2 own_o)) (FP.i2d own_o))), .second, .unset, .unset, .unset, .unset] []) tz → oS p e below T297 (mkF m 142 #[iv p0, iv p1, iv p2, iv p3, iv p0, rv b268, iv own_o, iv (own_r p1 own_o), iv (own_r p2 own_o), rv b276, rv b285, .val (.double (FP.ddiv (FP.i2d (own_r p1 own_o)) (FP.i2d own_o))), .second, .val (.double (FP.ddiv (FP.i2d (own_r p2 own_o)) (FP.i2d own_o))), .second, .unset, .unset, .unset, .unset] []) tz := fun tz kz => id (by
            show oS p e below T297 (mkF m 142 #[iv p0, iv p1, iv p2, iv p3, iv p0, rv b268, iv own_o, iv (own_r p1 own_o), iv (own_r p2 own_o), rv b276, rv b285, .val (.double (FP.ddiv (FP.i2d (own_r p1 own_o)) (FP.i2d own_o))), .second, .val (.double (FP.ddiv (FP.i2d (own_r p2 own_o)) (FP.i2d own_o))), .second, .unset, .unset, .unset, .unset] []) _
            refine XS.dload X297.here hx rfl (hb hby at_142) rfl ?_
            refine XS.dconst0 X297.here hx rfl (hb hby at_144) rfl ?_
            refine XS.dcmpS X297.here hx rfl (hb hby at_145) rfl rfl ?_
            refine XS.ifNo X297.here hx rfl (hb hby at_146) rfl (XT.i0_lt_f (own_t0 (own_rv p1 own_opos) own_opos)) ?_
            show oS p e below T297 (mkF m 149 #[iv p0, iv p1, iv p2, iv p3, iv p0, rv b268, iv own_o, iv (own_r p1 own_o), iv (own_r p2 own_o), rv b276, rv b285, .val (.double (FP.ddiv (FP.i2d (own_r p1 own_o)) (FP.i2d own_o))), .second, .val (.double (FP.ddiv (FP.i2d (own_r p2 own_o)) (FP.i2d own_o))), .second, .unset, .unset, .unset, .unset] []) _
            refine XS.dload X297.here hx rfl (hb hby at_149) rfl ?_
            refine XS.dconst1 X297.here hx rfl (hb hby at_151) rfl ?_
            refine XS.dcmpS X297.here hx rfl (hb hby at_152) rfl rfl ?_
            refine XS.ifYes X297.here hx rfl (pc0 := 153) (pc' := 158) rfl (hb hby at_153) rfl (XT.i0_le_t (own_t1 (own_rv p1 own_opos) own_opos)) (by decide) (by decide) ?_
            exact kz)
          exact S300 tz kz
        have S301 : ∀ tz, oS p e below T297 (mkF m 158 #[iv p0, iv p1, iv p2, iv p3, iv p0, rv b268, iv own_o, iv (own_r p1 own_o), iv (own_r p2 own_o), rv b276, rv b285, .val (.double (FP.ddiv (FP.i2d (own_r p1 own_o)) (FP.i2d own_o))), .second, .val (.double (FP.ddiv (FP.i2d (own_r p2 own_o)) (FP.i2d own_o))), .second, .unset, .unset, .unset, .unset] []) tz → oS p e below s₁ (mkF m 0 #[iv p0, iv p1, iv p2, iv p3, .unset, .unset, .unset, .unset, .unset, .unset, .unset, .unset, .unset, .unset, .unset, .unset, .unset, .unset, .unset] []) tz := fun tz kz => S298 tz (by
          show oS p e below T297 (mkF m 142 #[iv p0, iv p1, iv p2, iv p3, iv p0, rv b268, iv own_o, iv (own_r p1 own_o), iv (own_r p2 own_o), rv b276, rv b285, .val (.double (FP.ddiv (FP.i2d (own_r p1 own_o)) (FP.i2d own_o))), .second, .val (.double (FP.ddiv (FP.i2d (own_r p2 own_o)) (FP.i2d own_o))), .second, .unset, .unset, .unset, .unset] []) _
          refine M299 _ ?_
          show oS p e below T297 (mkF m 158 #[iv p0, iv p1, iv p2, iv p3, iv p0, rv b268, iv own_o, iv (own_r p1 own_o), iv (own_r p2 own_o), rv b276, rv b285, .val (.double (FP.ddiv (FP.i2d (own_r p1 own_o)) (FP.i2d own_o))), .second, .val (.double (FP.ddiv (FP.i2d (own_r p2 own_o)) (FP.i2d own_o))), .second, .unset, .unset, .unset, .unset] []) _
          exact kz)
        have M302 : ∀ tz, oS p e below T297 (mkF m 185 #[iv p0, iv p1, iv p2, iv p3, iv p0, rv b268, iv own_o, iv (own_r p1 own_o), iv (own_r p2 own_o), rv b276, rv b285, .val (.double (FP.ddiv (FP.i2d (own_r p1 own_o)) (FP.i2d own_o))), .second, .val (.double (FP.ddiv (FP.i2d (own_r p2 own_o)) (FP.i2d own_o))), .second, .unset, .unset, .unset, .unset] []) tz → oS p e below T297 (mkF m 158 #[iv p0, iv p1, iv p2, iv p3, iv p0, rv b268, iv own_o, iv (own_r p1 own_o), iv (own_r p2 own_o), rv b276, rv b285, .val (.double (FP.ddiv (FP.i2d (own_r p1 own_o)) (FP.i2d own_o))), .second, .val (.double (FP.ddiv (FP.i2d (own_r p2 own_o)) (FP.i2d own_o))), .second, .unset, .unset, .unset, .unset] []) tz := by
          intro tz kz
          by_cases hf158_303 : (own_r p1 own_o) = (0 : Int32)
          · have S304 : ∀ tz, oS p e below T297 (mkF m 185 #[iv p0, iv p1, iv p2, iv p3, iv p0, rv b268, iv own_o, iv (own_r p1 own_o), iv (own_r p2 own_o), rv b276, rv b285, .val (.double (FP.ddiv (FP.i2d (own_r p1 own_o)) (FP.i2d own_o))), .second, .val (.double (FP.ddiv (FP.i2d (own_r p2 own_o)) (FP.i2d own_o))), .second, .unset, .unset, .unset, .unset] []) tz → oS p e below T297 (mkF m 158 #[iv p0, iv p1, iv p2, iv p3, iv p0, rv b268, iv own_o, iv (own_r p1 own_o), iv (own_r p2 own_o), rv b276, rv b285, .val (.double (FP.ddiv (FP.i2d (own_r p1 own_o)) (FP.i2d own_o))), .second, .val (.double (FP.ddiv (FP.i2d (own_r p2 own_o)) (FP.i2d own_o))), .second, .unset, .unset, .unset, .unset] []) tz := fun tz kz => id (by
              show oS p e below T297 (mkF m 158 #[iv p0, iv p1, iv p2, iv p3, iv p0, rv b268, iv own_o, iv (own_r p1 own_o), iv (own_r p2 own_o), rv b276, rv b285, .val (.double (FP.ddiv (FP.i2d (own_r p1 own_o)) (FP.i2d own_o))), .second, .val (.double (FP.ddiv (FP.i2d (own_r p2 own_o)) (FP.i2d own_o))), .second, .unset, .unset, .unset, .unset] []) _
              refine XS.dload X297.here hx rfl (hb hby at_158) rfl ?_
              refine XS.dconst0 X297.here hx rfl (hb hby at_160) rfl ?_
              refine XS.dcmpS X297.here hx rfl (hb hby at_161) rfl rfl ?_
              show oS p e below T297 (mkF m 162 #[iv p0, iv p1, iv p2, iv p3, iv p0, rv b268, iv own_o, iv (own_r p1 own_o), iv (own_r p2 own_o), rv b276, rv b285, .val (.double (FP.ddiv (FP.i2d (own_r p1 own_o)) (FP.i2d own_o))), .second, .val (.double (FP.ddiv (FP.i2d (own_r p2 own_o)) (FP.i2d own_o))), .second, .unset, .unset, .unset, .unset] [(.int (cmpValue (FP.dcmp (FP.ddiv (FP.i2d (own_r p1 own_o)) (FP.i2d own_o)) FP.dconst0) .l))]) _
              refine XS.ifNo X297.here hx rfl (hb hby at_162) rfl (XT.i0_ne_f ((own_z0 (own_rv p1 own_opos) own_opos).mpr hf158_303)) ?_
              refine XT.iconstV X297.here hx rfl (1 : Int32) (hb hby at_165) (by decide) ?_
              refine XS.goto X297.here hx rfl (pc0 := 166) (pc' := 170) rfl (hb hby at_166) (by decide) (by decide) ?_
              refine XS.iload X297.here hx rfl (hb hby at_170) rfl ?_
              refine XS.ifNo X297.here hx rfl (hb hby at_172) rfl (XT.i0_ne_f hf158_303) ?_
              refine XT.iconstV X297.here hx rfl (1 : Int32) (hb hby at_175) (by decide) ?_
              refine XS.goto X297.here hx rfl (pc0 := 176) (pc' := 180) rfl (hb hby at_176) (by decide) (by decide) ?_
              refine XS.icmpYes X297.here hx rfl (pc0 := 180) (pc' := 185) rfl (hb hby at_180) rfl (XT.ii_eq_t (by decide)) (by decide) (by decide) ?_
              exact kz)
            exact S304 tz kz
          · have S305 : ∀ tz, oS p e below T297 (mkF m 185 #[iv p0, iv p1, iv p2, iv p3, iv p0, rv b268, iv own_o, iv (own_r p1 own_o), iv (own_r p2 own_o), rv b276, rv b285, .val (.double (FP.ddiv (FP.i2d (own_r p1 own_o)) (FP.i2d own_o))), .second, .val (.double (FP.ddiv (FP.i2d (own_r p2 own_o)) (FP.i2d own_o))), .second, .unset, .unset, .unset, .unset] []) tz → oS p e below T297 (mkF m 158 #[iv p0, iv p1, iv p2, iv p3, iv p0, rv b268, iv own_o, iv (own_r p1 own_o), iv (own_r p2 own_o), rv b276, rv b285, .val (.double (FP.ddiv (FP.i2d (own_r p1 own_o)) (FP.i2d own_o))), .second, .val (.double (FP.ddiv (FP.i2d (own_r p2 own_o)) (FP.i2d own_o))), .second, .unset, .unset, .unset, .unset] []) tz := fun tz kz => id (by
              show oS p e below T297 (mkF m 158 #[iv p0, iv p1, iv p2, iv p3, iv p0, rv b268, iv own_o, iv (own_r p1 own_o), iv (own_r p2 own_o), rv b276, rv b285, .val (.double (FP.ddiv (FP.i2d (own_r p1 own_o)) (FP.i2d own_o))), .second, .val (.double (FP.ddiv (FP.i2d (own_r p2 own_o)) (FP.i2d own_o))), .second, .unset, .unset, .unset, .unset] []) _
              refine XS.dload X297.here hx rfl (hb hby at_158) rfl ?_
              refine XS.dconst0 X297.here hx rfl (hb hby at_160) rfl ?_
              refine XS.dcmpS X297.here hx rfl (hb hby at_161) rfl rfl ?_
              show oS p e below T297 (mkF m 162 #[iv p0, iv p1, iv p2, iv p3, iv p0, rv b268, iv own_o, iv (own_r p1 own_o), iv (own_r p2 own_o), rv b276, rv b285, .val (.double (FP.ddiv (FP.i2d (own_r p1 own_o)) (FP.i2d own_o))), .second, .val (.double (FP.ddiv (FP.i2d (own_r p2 own_o)) (FP.i2d own_o))), .second, .unset, .unset, .unset, .unset] [(.int (cmpValue (FP.dcmp (FP.ddiv (FP.i2d (own_r p1 own_o)) (FP.i2d own_o)) FP.dconst0) .l))]) _
              refine XS.ifYes X297.here hx rfl (pc0 := 162) (pc' := 169) rfl (hb hby at_162) rfl (XT.i0_ne_t (fun q => hf158_303 ((own_z0 (own_rv p1 own_opos) own_opos).mp q))) (by decide) (by decide) ?_
              refine XT.iconstV X297.here hx rfl (0 : Int32) (hb hby at_169) (by decide) ?_
              refine XS.iload X297.here hx rfl (hb hby at_170) rfl ?_
              refine XS.ifYes X297.here hx rfl (pc0 := 172) (pc' := 179) rfl (hb hby at_172) rfl (XT.i0_ne_t hf158_303) (by decide) (by decide) ?_
              refine XT.iconstV X297.here hx rfl (0 : Int32) (hb hby at_179) (by decide) ?_
              refine XS.icmpYes X297.here hx rfl (pc0 := 180) (pc' := 185) rfl (hb hby at_180) rfl (XT.ii_eq_t (by decide)) (by decide) (by decide) ?_
              exact kz)
            exact S305 tz kz
        have S306 : ∀ tz, oS p e below T297 (mkF m 185 #[iv p0, iv p1, iv p2, iv p3, iv p0, rv b268, iv own_o, iv (own_r p1 own_o), iv (own_r p2 own_o), rv b276, rv b285, .val (.double (FP.ddiv (FP.i2d (own_r p1 own_o)) (FP.i2d own_o))), .second, .val (.double (FP.ddiv (FP.i2d (own_r p2 own_o)) (FP.i2d own_o))), .second, .unset, .unset, .unset, .unset] []) tz → oS p e below s₁ (mkF m 0 #[iv p0, iv p1, iv p2, iv p3, .unset, .unset, .unset, .unset, .unset, .unset, .unset, .unset, .unset, .unset, .unset, .unset, .unset, .unset, .unset] []) tz := fun tz kz => S301 tz (by
          show oS p e below T297 (mkF m 158 #[iv p0, iv p1, iv p2, iv p3, iv p0, rv b268, iv own_o, iv (own_r p1 own_o), iv (own_r p2 own_o), rv b276, rv b285, .val (.double (FP.ddiv (FP.i2d (own_r p1 own_o)) (FP.i2d own_o))), .second, .val (.double (FP.ddiv (FP.i2d (own_r p2 own_o)) (FP.i2d own_o))), .second, .unset, .unset, .unset, .unset] []) _
          refine M302 _ ?_
          show oS p e below T297 (mkF m 185 #[iv p0, iv p1, iv p2, iv p3, iv p0, rv b268, iv own_o, iv (own_r p1 own_o), iv (own_r p2 own_o), rv b276, rv b285, .val (.double (FP.ddiv (FP.i2d (own_r p1 own_o)) (FP.i2d own_o))), .second, .val (.double (FP.ddiv (FP.i2d (own_r p2 own_o)) (FP.i2d own_o))), .second, .unset, .unset, .unset, .unset] []) _
          exact kz)
        have M307 : ∀ tz, oS p e below T297 (mkF m 214 #[iv p0, iv p1, iv p2, iv p3, iv p0, rv b268, iv own_o, iv (own_r p1 own_o), iv (own_r p2 own_o), rv b276, rv b285, .val (.double (FP.ddiv (FP.i2d (own_r p1 own_o)) (FP.i2d own_o))), .second, .val (.double (FP.ddiv (FP.i2d (own_r p2 own_o)) (FP.i2d own_o))), .second, .unset, .unset, .unset, .unset] []) tz → oS p e below T297 (mkF m 185 #[iv p0, iv p1, iv p2, iv p3, iv p0, rv b268, iv own_o, iv (own_r p1 own_o), iv (own_r p2 own_o), rv b276, rv b285, .val (.double (FP.ddiv (FP.i2d (own_r p1 own_o)) (FP.i2d own_o))), .second, .val (.double (FP.ddiv (FP.i2d (own_r p2 own_o)) (FP.i2d own_o))), .second, .unset, .unset, .unset, .unset] []) tz := by
          intro tz kz
          by_cases hf185_308 : (own_r p1 own_o) = own_o
          · have S309 : ∀ tz, oS p e below T297 (mkF m 214 #[iv p0, iv p1, iv p2, iv p3, iv p0, rv b268, iv own_o, iv (own_r p1 own_o), iv (own_r p2 own_o), rv b276, rv b285, .val (.double (FP.ddiv (FP.i2d (own_r p1 own_o)) (FP.i2d own_o))), .second, .val (.double (FP.ddiv (FP.i2d (own_r p2 own_o)) (FP.i2d own_o))), .second, .unset, .unset, .unset, .unset] []) tz → oS p e below T297 (mkF m 185 #[iv p0, iv p1, iv p2, iv p3, iv p0, rv b268, iv own_o, iv (own_r p1 own_o), iv (own_r p2 own_o), rv b276, rv b285, .val (.double (FP.ddiv (FP.i2d (own_r p1 own_o)) (FP.i2d own_o))), .second, .val (.double (FP.ddiv (FP.i2d (own_r p2 own_o)) (FP.i2d own_o))), .second, .unset, .unset, .unset, .unset] []) tz := fun tz kz => id (by
              show oS p e below T297 (mkF m 185 #[iv p0, iv p1, iv p2, iv p3, iv p0, rv b268, iv own_o, iv (own_r p1 own_o), iv (own_r p2 own_o), rv b276, rv b285, .val (.double (FP.ddiv (FP.i2d (own_r p1 own_o)) (FP.i2d own_o))), .second, .val (.double (FP.ddiv (FP.i2d (own_r p2 own_o)) (FP.i2d own_o))), .second, .unset, .unset, .unset, .unset] []) _
              refine XS.dload X297.here hx rfl (hb hby at_185) rfl ?_
              refine XS.dconst1 X297.here hx rfl (hb hby at_187) rfl ?_
              show oS p e below T297 (mkF m 188 #[iv p0, iv p1, iv p2, iv p3, iv p0, rv b268, iv own_o, iv (own_r p1 own_o), iv (own_r p2 own_o), rv b276, rv b285, .val (.double (FP.ddiv (FP.i2d (own_r p1 own_o)) (FP.i2d own_o))), .second, .val (.double (FP.ddiv (FP.i2d (own_r p2 own_o)) (FP.i2d own_o))), .second, .unset, .unset, .unset, .unset] [(.double FP.dconst1), (.double (FP.ddiv (FP.i2d (own_r p1 own_o)) (FP.i2d own_o)))]) _
              refine XS.dcmpS X297.here hx rfl (hb hby at_188) rfl rfl ?_
              refine XS.ifNo X297.here hx rfl (hb hby at_189) rfl (XT.i0_ne_f ((own_z1 (own_rv p1 own_opos) own_opos).mpr hf185_308)) ?_
              refine XT.iconstV X297.here hx rfl (1 : Int32) (hb hby at_192) (by decide) ?_
              refine XS.goto X297.here hx rfl (pc0 := 193) (pc' := 197) rfl (hb hby at_193) (by decide) (by decide) ?_
              refine XS.iload X297.here hx rfl (hb hby at_197) rfl ?_
              refine XS.iload X297.here hx rfl (hb hby at_199) rfl ?_
              refine XS.icmpNo X297.here hx rfl (hb hby at_201) rfl (XT.ii_ne_f hf185_308) ?_
              refine XT.iconstV X297.here hx rfl (1 : Int32) (hb hby at_204) (by decide) ?_
              refine XS.goto X297.here hx rfl (pc0 := 205) (pc' := 209) rfl (hb hby at_205) (by decide) (by decide) ?_
              refine XS.icmpYes X297.here hx rfl (pc0 := 209) (pc' := 214) rfl (hb hby at_209) rfl (XT.ii_eq_t (by decide)) (by decide) (by decide) ?_
              show oS p e below T297 (mkF m 214 #[iv p0, iv p1, iv p2, iv p3, iv p0, rv b268, iv own_o, iv (own_r p1 own_o), iv (own_r p2 own_o), rv b276, rv b285, .val (.double (FP.ddiv (FP.i2d (own_r p1 own_o)) (FP.i2d own_o))), .second, .val (.double (FP.ddiv (FP.i2d (own_r p2 own_o)) (FP.i2d own_o))), .second, .unset, .unset, .unset, .unset] []) _
              exact kz)
            exact S309 tz kz
          · have S310 : ∀ tz, oS p e below T297 (mkF m 214 #[iv p0, iv p1, iv p2, iv p3, iv p0, rv b268, iv own_o, iv (own_r p1 own_o), iv (own_r p2 own_o), rv b276, rv b285, .val (.double (FP.ddiv (FP.i2d (own_r p1 own_o)) (FP.i2d own_o))), .second, .val (.double (FP.ddiv (FP.i2d (own_r p2 own_o)) (FP.i2d own_o))), .second, .unset, .unset, .unset, .unset] []) tz → oS p e below T297 (mkF m 185 #[iv p0, iv p1, iv p2, iv p3, iv p0, rv b268, iv own_o, iv (own_r p1 own_o), iv (own_r p2 own_o), rv b276, rv b285, .val (.double (FP.ddiv (FP.i2d (own_r p1 own_o)) (FP.i2d own_o))), .second, .val (.double (FP.ddiv (FP.i2d (own_r p2 own_o)) (FP.i2d own_o))), .second, .unset, .unset, .unset, .unset] []) tz := fun tz kz => id (by
              show oS p e below T297 (mkF m 185 #[iv p0, iv p1, iv p2, iv p3, iv p0, rv b268, iv own_o, iv (own_r p1 own_o), iv (own_r p2 own_o), rv b276, rv b285, .val (.double (FP.ddiv (FP.i2d (own_r p1 own_o)) (FP.i2d own_o))), .second, .val (.double (FP.ddiv (FP.i2d (own_r p2 own_o)) (FP.i2d own_o))), .second, .unset, .unset, .unset, .unset] []) _
              refine XS.dload X297.here hx rfl (hb hby at_185) rfl ?_
              refine XS.dconst1 X297.here hx rfl (hb hby at_187) rfl ?_
              show oS p e below T297 (mkF m 188 #[iv p0, iv p1, iv p2, iv p3, iv p0, rv b268, iv own_o, iv (own_r p1 own_o), iv (own_r p2 own_o), rv b276, rv b285, .val (.double (FP.ddiv (FP.i2d (own_r p1 own_o)) (FP.i2d own_o))), .second, .val (.double (FP.ddiv (FP.i2d (own_r p2 own_o)) (FP.i2d own_o))), .second, .unset, .unset, .unset, .unset] [(.double FP.dconst1), (.double (FP.ddiv (FP.i2d (own_r p1 own_o)) (FP.i2d own_o)))]) _
              refine XS.dcmpS X297.here hx rfl (hb hby at_188) rfl rfl ?_
              refine XS.ifYes X297.here hx rfl (pc0 := 189) (pc' := 196) rfl (hb hby at_189) rfl (XT.i0_ne_t (fun q => hf185_308 ((own_z1 (own_rv p1 own_opos) own_opos).mp q))) (by decide) (by decide) ?_
              refine XT.iconstV X297.here hx rfl (0 : Int32) (hb hby at_196) (by decide) ?_
              refine XS.iload X297.here hx rfl (hb hby at_197) rfl ?_
              refine XS.iload X297.here hx rfl (hb hby at_199) rfl ?_
              refine XS.icmpYes X297.here hx rfl (pc0 := 201) (pc' := 208) rfl (hb hby at_201) rfl (XT.ii_ne_t hf185_308) (by decide) (by decide) ?_
              refine XT.iconstV X297.here hx rfl (0 : Int32) (hb hby at_208) (by decide) ?_
              refine XS.icmpYes X297.here hx rfl (pc0 := 209) (pc' := 214) rfl (hb hby at_209) rfl (XT.ii_eq_t (by decide)) (by decide) (by decide) ?_
              exact kz)
            exact S310 tz kz
        have S311 : ∀ tz, oS p e below T297 (mkF m 214 #[iv p0, iv p1, iv p2, iv p3, iv p0, rv b268, iv own_o, iv (own_r p1 own_o), iv (own_r p2 own_o), rv b276, rv b285, .val (.double (FP.ddiv (FP.i2d (own_r p1 own_o)) (FP.i2d own_o))), .second, .val (.double (FP.ddiv (FP.i2d (own_r p2 own_o)) (FP.i2d own_o))), .second, .unset, .unset, .unset, .unset] []) tz → oS p e below s₁ (mkF m 0 #[iv p0, iv p1, iv p2, iv p3, .unset, .unset, .unset, .unset, .unset, .unset, .unset, .unset, .unset, .unset, .unset, .unset, .unset, .unset, .unset] []) tz := fun tz kz => S306 tz (by
          show oS p e below T297 (mkF m 185 #[iv p0, iv p1, iv p2, iv p3, iv p0, rv b268, iv own_o, iv (own_r p1 own_o), iv (own_r p2 own_o), rv b276, rv b285, .val (.double (FP.ddiv (FP.i2d (own_r p1 own_o)) (FP.i2d own_o))), .second, .val (.double (FP.ddiv (FP.i2d (own_r p2 own_o)) (FP.i2d own_o))), .second, .unset, .unset, .unset, .unset] []) _
          refine M307 _ ?_
          show oS p e below T297 (mkF m 214 #[iv p0, iv p1, iv p2, iv p3, iv p0, rv b268, iv own_o, iv (own_r p1 own_o), iv (own_r p2 own_o), rv b276, rv b285, .val (.double (FP.ddiv (FP.i2d (own_r p1 own_o)) (FP.i2d own_o))), .second, .val (.double (FP.ddiv (FP.i2d (own_r p2 own_o)) (FP.i2d own_o))), .second, .unset, .unset, .unset, .unset] []) _
          exact kz)
        have M312 : ∀ tz, oS p e below T297 (mkF m 244 #[iv p0, iv p1, iv p2, iv p3, iv p0, rv b268, iv own_o, iv (own_r p1 own_o), iv (own_r p2 own_o), rv b276, rv b285, .val (.double (FP.ddiv (FP.i2d (own_r p1 own_o)) (FP.i2d own_o))), .second, .val (.double (FP.ddiv (FP.i2d (own_r p2 own_o)) (FP.i2d own_o))), .second, .unset, .unset, .unset, .unset] []) tz → oS p e below T297 (mkF m 214 #[iv p0, iv p1, iv p2, iv p3, iv p0, rv b268, iv own_o, iv (own_r p1 own_o), iv (own_r p2 own_o), rv b276, rv b285, .val (.double (FP.ddiv (FP.i2d (own_r p1 own_o)) (FP.i2d own_o))), .second, .val (.double (FP.ddiv (FP.i2d (own_r p2 own_o)) (FP.i2d own_o))), .second, .unset, .unset, .unset, .unset] []) tz := by
          intro tz kz
          by_cases hf214_313 : (own_r p1 own_o) < (own_r p2 own_o)
          · have S314 : ∀ tz, oS p e below T297 (mkF m 244 #[iv p0, iv p1, iv p2, iv p3, iv p0, rv b268, iv own_o, iv (own_r p1 own_o), iv (own_r p2 own_o), rv b276, rv b285, .val (.double (FP.ddiv (FP.i2d (own_r p1 own_o)) (FP.i2d own_o))), .second, .val (.double (FP.ddiv (FP.i2d (own_r p2 own_o)) (FP.i2d own_o))), .second, .unset, .unset, .unset, .unset] []) tz → oS p e below T297 (mkF m 214 #[iv p0, iv p1, iv p2, iv p3, iv p0, rv b268, iv own_o, iv (own_r p1 own_o), iv (own_r p2 own_o), rv b276, rv b285, .val (.double (FP.ddiv (FP.i2d (own_r p1 own_o)) (FP.i2d own_o))), .second, .val (.double (FP.ddiv (FP.i2d (own_r p2 own_o)) (FP.i2d own_o))), .second, .unset, .unset, .unset, .unset] []) tz := fun tz kz => id (by
              show oS p e below T297 (mkF m 214 #[iv p0, iv p1, iv p2, iv p3, iv p0, rv b268, iv own_o, iv (own_r p1 own_o), iv (own_r p2 own_o), rv b276, rv b285, .val (.double (FP.ddiv (FP.i2d (own_r p1 own_o)) (FP.i2d own_o))), .second, .val (.double (FP.ddiv (FP.i2d (own_r p2 own_o)) (FP.i2d own_o))), .second, .unset, .unset, .unset, .unset] []) _
              refine XS.iload X297.here hx rfl (hb hby at_214) rfl ?_
              show oS p e below T297 (mkF m 216 #[iv p0, iv p1, iv p2, iv p3, iv p0, rv b268, iv own_o, iv (own_r p1 own_o), iv (own_r p2 own_o), rv b276, rv b285, .val (.double (FP.ddiv (FP.i2d (own_r p1 own_o)) (FP.i2d own_o))), .second, .val (.double (FP.ddiv (FP.i2d (own_r p2 own_o)) (FP.i2d own_o))), .second, .unset, .unset, .unset, .unset] [(.int (own_r p1 own_o))]) _
              refine XS.iload X297.here hx rfl (hb hby at_216) rfl ?_
              refine XS.icmpNo X297.here hx rfl (hb hby at_218) rfl (XT.ii_ge_f hf214_313) ?_
              refine XT.iconstV X297.here hx rfl (1 : Int32) (hb hby at_221) (by decide) ?_
              refine XS.goto X297.here hx rfl (pc0 := 222) (pc' := 226) rfl (hb hby at_222) (by decide) (by decide) ?_
              refine XS.dload X297.here hx rfl (hb hby at_226) rfl ?_
              refine XS.dload X297.here hx rfl (hb hby at_228) rfl ?_
              refine XS.dcmpS X297.here hx rfl (hb hby at_230) rfl rfl ?_
              refine XS.ifNo X297.here hx rfl (hb hby at_231) rfl (XT.i0_ge_f ((own_tl (own_rv p1 own_opos) (own_rv p2 own_opos) own_opos).mpr hf214_313)) ?_
              refine XT.iconstV X297.here hx rfl (1 : Int32) (hb hby at_234) (by decide) ?_
              refine XS.goto X297.here hx rfl (pc0 := 235) (pc' := 239) rfl (hb hby at_235) (by decide) (by decide) ?_
              show oS p e below T297 (mkF m 239 #[iv p0, iv p1, iv p2, iv p3, iv p0, rv b268, iv own_o, iv (own_r p1 own_o), iv (own_r p2 own_o), rv b276, rv b285, .val (.double (FP.ddiv (FP.i2d (own_r p1 own_o)) (FP.i2d own_o))), .second, .val (.double (FP.ddiv (FP.i2d (own_r p2 own_o)) (FP.i2d own_o))), .second, .unset, .unset, .unset, .unset] [(.int 1), (.int 1)]) _
              refine XS.icmpYes X297.here hx rfl (pc0 := 239) (pc' := 244) rfl (hb hby at_239) rfl (XT.ii_eq_t (by decide)) (by decide) (by decide) ?_
              exact kz)
            exact S314 tz kz
          · have S315 : ∀ tz, oS p e below T297 (mkF m 244 #[iv p0, iv p1, iv p2, iv p3, iv p0, rv b268, iv own_o, iv (own_r p1 own_o), iv (own_r p2 own_o), rv b276, rv b285, .val (.double (FP.ddiv (FP.i2d (own_r p1 own_o)) (FP.i2d own_o))), .second, .val (.double (FP.ddiv (FP.i2d (own_r p2 own_o)) (FP.i2d own_o))), .second, .unset, .unset, .unset, .unset] []) tz → oS p e below T297 (mkF m 214 #[iv p0, iv p1, iv p2, iv p3, iv p0, rv b268, iv own_o, iv (own_r p1 own_o), iv (own_r p2 own_o), rv b276, rv b285, .val (.double (FP.ddiv (FP.i2d (own_r p1 own_o)) (FP.i2d own_o))), .second, .val (.double (FP.ddiv (FP.i2d (own_r p2 own_o)) (FP.i2d own_o))), .second, .unset, .unset, .unset, .unset] []) tz := fun tz kz => id (by
              show oS p e below T297 (mkF m 214 #[iv p0, iv p1, iv p2, iv p3, iv p0, rv b268, iv own_o, iv (own_r p1 own_o), iv (own_r p2 own_o), rv b276, rv b285, .val (.double (FP.ddiv (FP.i2d (own_r p1 own_o)) (FP.i2d own_o))), .second, .val (.double (FP.ddiv (FP.i2d (own_r p2 own_o)) (FP.i2d own_o))), .second, .unset, .unset, .unset, .unset] []) _
              refine XS.iload X297.here hx rfl (hb hby at_214) rfl ?_
              show oS p e below T297 (mkF m 216 #[iv p0, iv p1, iv p2, iv p3, iv p0, rv b268, iv own_o, iv (own_r p1 own_o), iv (own_r p2 own_o), rv b276, rv b285, .val (.double (FP.ddiv (FP.i2d (own_r p1 own_o)) (FP.i2d own_o))), .second, .val (.double (FP.ddiv (FP.i2d (own_r p2 own_o)) (FP.i2d own_o))), .second, .unset, .unset, .unset, .unset] [(.int (own_r p1 own_o))]) _
              refine XS.iload X297.here hx rfl (hb hby at_216) rfl ?_
              refine XS.icmpYes X297.here hx rfl (pc0 := 218) (pc' := 225) rfl (hb hby at_218) rfl (XT.ii_ge_t hf214_313) (by decide) (by decide) ?_
              refine XT.iconstV X297.here hx rfl (0 : Int32) (hb hby at_225) (by decide) ?_
              refine XS.dload X297.here hx rfl (hb hby at_226) rfl ?_
              refine XS.dload X297.here hx rfl (hb hby at_228) rfl ?_
              refine XS.dcmpS X297.here hx rfl (hb hby at_230) rfl rfl ?_
              refine XS.ifYes X297.here hx rfl (pc0 := 231) (pc' := 238) rfl (hb hby at_231) rfl (XT.i0_ge_t (fun q => hf214_313 ((own_tl (own_rv p1 own_opos) (own_rv p2 own_opos) own_opos).mp q))) (by decide) (by decide) ?_
              refine XT.iconstV X297.here hx rfl (0 : Int32) (hb hby at_238) (by decide) ?_
              refine XS.icmpYes X297.here hx rfl (pc0 := 239) (pc' := 244) rfl (hb hby at_239) rfl (XT.ii_eq_t (by decide)) (by decide) (by decide) ?_
              exact kz)
            exact S315 tz kz
        have S316 : ∀ tz, oS p e below T297 (mkF m 244 #[iv p0, iv p1, iv p2, iv p3, iv p0, rv b268, iv own_o, iv (own_r p1 own_o), iv (own_r p2 own_o), rv b276, rv b285, .val (.double (FP.ddiv (FP.i2d (own_r p1 own_o)) (FP.i2d own_o))), .second, .val (.double (FP.ddiv (FP.i2d (own_r p2 own_o)) (FP.i2d own_o))), .second, .unset, .unset, .unset, .unset] []) tz → oS p e below s₁ (mkF m 0 #[iv p0, iv p1, iv p2, iv p3, .unset, .unset, .unset, .unset, .unset, .unset, .unset, .unset, .unset, .unset, .unset, .unset, .unset, .unset, .unset] []) tz := fun tz kz => S311 tz (by
          show oS p e below T297 (mkF m 214 #[iv p0, iv p1, iv p2, iv p3, iv p0, rv b268, iv own_o, iv (own_r p1 own_o), iv (own_r p2 own_o), rv b276, rv b285, .val (.double (FP.ddiv (FP.i2d (own_r p1 own_o)) (FP.i2d own_o))), .second, .val (.double (FP.ddiv (FP.i2d (own_r p2 own_o)) (FP.i2d own_o))), .second, .unset, .unset, .unset, .unset] []) _
          refine M312 _ ?_
          show oS p e below T297 (mkF m 244 #[iv p0, iv p1, iv p2, iv p3, iv p0, rv b268, iv own_o, iv (own_r p1 own_o), iv (own_r p2 own_o), rv b276, rv b285, .val (.double (FP.ddiv (FP.i2d (own_r p1 own_o)) (FP.i2d own_o))), .second, .val (.double (FP.ddiv (FP.i2d (own_r p2 own_o)) (FP.i2d own_o))), .second, .unset, .unset, .unset, .unset] []) _
          exact kz)
        have M317 : ∀ tz, oS p e below T297 (mkF m 274 #[iv p0, iv p1, iv p2, iv p3, iv p0, rv b268, iv own_o, iv (own_r p1 own_o), iv (own_r p2 own_o), rv b276, rv b285, .val (.double (FP.ddiv (FP.i2d (own_r p1 own_o)) (FP.i2d own_o))), .second, .val (.double (FP.ddiv (FP.i2d (own_r p2 own_o)) (FP.i2d own_o))), .second, .unset, .unset, .unset, .unset] []) tz → oS p e below T297 (mkF m 244 #[iv p0, iv p1, iv p2, iv p3, iv p0, rv b268, iv own_o, iv (own_r p1 own_o), iv (own_r p2 own_o), rv b276, rv b285, .val (.double (FP.ddiv (FP.i2d (own_r p1 own_o)) (FP.i2d own_o))), .second, .val (.double (FP.ddiv (FP.i2d (own_r p2 own_o)) (FP.i2d own_o))), .second, .unset, .unset, .unset, .unset] []) tz := by
          intro tz kz
          by_cases hf244_318 : (own_r p1 own_o) = (own_r p2 own_o)
          · have S319 : ∀ tz, oS p e below T297 (mkF m 274 #[iv p0, iv p1, iv p2, iv p3, iv p0, rv b268, iv own_o, iv (own_r p1 own_o), iv (own_r p2 own_o), rv b276, rv b285, .val (.double (FP.ddiv (FP.i2d (own_r p1 own_o)) (FP.i2d own_o))), .second, .val (.double (FP.ddiv (FP.i2d (own_r p2 own_o)) (FP.i2d own_o))), .second, .unset, .unset, .unset, .unset] []) tz → oS p e below T297 (mkF m 244 #[iv p0, iv p1, iv p2, iv p3, iv p0, rv b268, iv own_o, iv (own_r p1 own_o), iv (own_r p2 own_o), rv b276, rv b285, .val (.double (FP.ddiv (FP.i2d (own_r p1 own_o)) (FP.i2d own_o))), .second, .val (.double (FP.ddiv (FP.i2d (own_r p2 own_o)) (FP.i2d own_o))), .second, .unset, .unset, .unset, .unset] []) tz := fun tz kz => id (by
              show oS p e below T297 (mkF m 244 #[iv p0, iv p1, iv p2, iv p3, iv p0, rv b268, iv own_o, iv (own_r p1 own_o), iv (own_r p2 own_o), rv b276, rv b285, .val (.double (FP.ddiv (FP.i2d (own_r p1 own_o)) (FP.i2d own_o))), .second, .val (.double (FP.ddiv (FP.i2d (own_r p2 own_o)) (FP.i2d own_o))), .second, .unset, .unset, .unset, .unset] []) _
              refine XS.iload X297.here hx rfl (hb hby at_244) rfl ?_
              refine XS.iload X297.here hx rfl (hb hby at_246) rfl ?_
              refine XS.icmpNo X297.here hx rfl (hb hby at_248) rfl (XT.ii_ne_f hf244_318) ?_
              refine XT.iconstV X297.here hx rfl (1 : Int32) (hb hby at_251) (by decide) ?_
              refine XS.goto X297.here hx rfl (pc0 := 252) (pc' := 256) rfl (hb hby at_252) (by decide) (by decide) ?_
              refine XS.dload X297.here hx rfl (hb hby at_256) rfl ?_
              refine XS.dload X297.here hx rfl (hb hby at_258) rfl ?_
              refine XS.dcmpS X297.here hx rfl (hb hby at_260) rfl rfl ?_
              refine XS.ifNo X297.here hx rfl (hb hby at_261) rfl (XT.i0_ne_f ((own_te (own_rv p1 own_opos) (own_rv p2 own_opos) own_opos).mpr hf244_318)) ?_
              refine XT.iconstV X297.here hx rfl (1 : Int32) (hb hby at_264) (by decide) ?_
              show oS p e below T297 (mkF m 265 #[iv p0, iv p1, iv p2, iv p3, iv p0, rv b268, iv own_o, iv (own_r p1 own_o), iv (own_r p2 own_o), rv b276, rv b285, .val (.double (FP.ddiv (FP.i2d (own_r p1 own_o)) (FP.i2d own_o))), .second, .val (.double (FP.ddiv (FP.i2d (own_r p2 own_o)) (FP.i2d own_o))), .second, .unset, .unset, .unset, .unset] [(.int 1), (.int 1)]) _
              refine XS.goto X297.here hx rfl (pc0 := 265) (pc' := 269) rfl (hb hby at_265) (by decide) (by decide) ?_
              refine XS.icmpYes X297.here hx rfl (pc0 := 269) (pc' := 274) rfl (hb hby at_269) rfl (XT.ii_eq_t (by decide)) (by decide) (by decide) ?_
              exact kz)
            exact S319 tz kz
          · have S320 : ∀ tz, oS p e below T297 (mkF m 274 #[iv p0, iv p1, iv p2, iv p3, iv p0, rv b268, iv own_o, iv (own_r p1 own_o), iv (own_r p2 own_o), rv b276, rv b285, .val (.double (FP.ddiv (FP.i2d (own_r p1 own_o)) (FP.i2d own_o))), .second, .val (.double (FP.ddiv (FP.i2d (own_r p2 own_o)) (FP.i2d own_o))), .second, .unset, .unset, .unset, .unset] []) tz → oS p e below T297 (mkF m 244 #[iv p0, iv p1, iv p2, iv p3, iv p0, rv b268, iv own_o, iv (own_r p1 own_o), iv (own_r p2 own_o), rv b276, rv b285, .val (.double (FP.ddiv (FP.i2d (own_r p1 own_o)) (FP.i2d own_o))), .second, .val (.double (FP.ddiv (FP.i2d (own_r p2 own_o)) (FP.i2d own_o))), .second, .unset, .unset, .unset, .unset] []) tz := fun tz kz => id (by
              show oS p e below T297 (mkF m 244 #[iv p0, iv p1, iv p2, iv p3, iv p0, rv b268, iv own_o, iv (own_r p1 own_o), iv (own_r p2 own_o), rv b276, rv b285, .val (.double (FP.ddiv (FP.i2d (own_r p1 own_o)) (FP.i2d own_o))), .second, .val (.double (FP.ddiv (FP.i2d (own_r p2 own_o)) (FP.i2d own_o))), .second, .unset, .unset, .unset, .unset] []) _
              refine XS.iload X297.here hx rfl (hb hby at_244) rfl ?_
              refine XS.iload X297.here hx rfl (hb hby at_246) rfl ?_
              refine XS.icmpYes X297.here hx rfl (pc0 := 248) (pc' := 255) rfl (hb hby at_248) rfl (XT.ii_ne_t hf244_318) (by decide) (by decide) ?_
              refine XT.iconstV X297.here hx rfl (0 : Int32) (hb hby at_255) (by decide) ?_
              refine XS.dload X297.here hx rfl (hb hby at_256) rfl ?_
              refine XS.dload X297.here hx rfl (hb hby at_258) rfl ?_
              refine XS.dcmpS X297.here hx rfl (hb hby at_260) rfl rfl ?_
              refine XS.ifYes X297.here hx rfl (pc0 := 261) (pc' := 268) rfl (hb hby at_261) rfl (XT.i0_ne_t (fun q => hf244_318 ((own_te (own_rv p1 own_opos) (own_rv p2 own_opos) own_opos).mp q))) (by decide) (by decide) ?_
              refine XT.iconstV X297.here hx rfl (0 : Int32) (hb hby at_268) (by decide) ?_
              refine XS.icmpYes X297.here hx rfl (pc0 := 269) (pc' := 274) rfl (hb hby at_269) rfl (XT.ii_eq_t (by decide)) (by decide) (by decide) ?_
              show oS p e below T297 (mkF m 274 #[iv p0, iv p1, iv p2, iv p3, iv p0, rv b268, iv own_o, iv (own_r p1 own_o), iv (own_r p2 own_o), rv b276, rv b285, .val (.double (FP.ddiv (FP.i2d (own_r p1 own_o)) (FP.i2d own_o))), .second, .val (.double (FP.ddiv (FP.i2d (own_r p2 own_o)) (FP.i2d own_o))), .second, .unset, .unset, .unset, .unset] []) _
              exact kz)
            exact S320 tz kz
        obtain ⟨_, T321, Lc321, X321, hQ321, st321⟩ := own_callS (W := 0) (y := mN7) X297 hx hZ hown (hw _ (own_w 0 rfl)) (hw _ (own_w 1 rfl)) (hw _ (own_w 2 rfl)) (hw _ (own_w 3 rfl)) (by decide) (rmMk l Z av0 hw [] ((2 : Int32) * own_o) ((2 : Int32) * (own_r p1 own_o)) T285.heap n0 Zk285 ) (by decide) (by decide) (g := (mkF m 289 #[iv p0, iv p1, iv p2, iv p3, iv p0, rv b268, iv own_o, iv (own_r p1 own_o), iv (own_r p2 own_o), rv b276, rv b285, .val (.double (FP.ddiv (FP.i2d (own_r p1 own_o)) (FP.i2d own_o))), .second, .val (.double (FP.ddiv (FP.i2d (own_r p2 own_o)) (FP.i2d own_o))), .second, .unset, .unset, .unset, .unset] [(.int ((2 : Int32) * (own_r p1 own_o))), (.int ((2 : Int32) * own_o))])) rfl (by rw [hml]; rfl) (argsL := [(.int ((2 : Int32) * own_o)), (.int ((2 : Int32) * (own_r p1 own_o)))]) (rest := []) (lenOf pd__II_Lcom_example_graftwork_graftwork_simulate_Summary_ rfl) rfl (hb hby at_289) rfl e297 (by decide : 6 + 1 ≤ _) (by decide : 30 + 8 ≤ _)
        obtain ⟨b321, rfl, N321q, gb321, K321, E321, Fa321, Fc321⟩ := hQ321
        have N321 := Fr.app N297 N321q
        have e321 : T321.heap = T321.heap := rfl
        have f322 := (f286.keep K285)
        have ne_aE_b321 : aE ≠ b321 := Nat.ne_of_lt (Nat.lt_of_lt_of_le f322.lt gb321)
        have f323 := (f287.keep K285)
        have ne_b267_b321 : b267 ≠ b321 := Nat.ne_of_lt (Nat.lt_of_lt_of_le f323.lt gb321)
        have f324 := (f288.keep K285)
        have ne_b268_b321 : b268 ≠ b321 := Nat.ne_of_lt (Nat.lt_of_lt_of_le f324.lt gb321)
        have f325 := (f289.keep K285)
        have ne_b273_b321 : b273 ≠ b321 := Nat.ne_of_lt (Nat.lt_of_lt_of_le f325.lt gb321)
        have ne_b276_b321 : b276 ≠ b321 := Nat.ne_of_lt (Nat.lt_of_lt_of_le f293.lt gb321)
        have f326 := (E280.keep K285)
        have ne_b280_b321 : b280 ≠ b321 := Nat.ne_of_lt (Nat.lt_of_lt_of_le f326.lt gb321)
        have ne_b285_b321 : b285 ≠ b321 := Nat.ne_of_lt (Nat.lt_of_lt_of_le E285.lt gb321)
        have ge_b321 : n0 ≤ b321 := Nat.le_trans Zk285 gb321
        have sz_b321 : h0.size ≤ b321 := Nat.le_trans Kk285.1 gb321
        have Zk321 : n0 ≤ T321.heap.size := Nat.le_trans Zk285 K321.1
        have Kk321 : Keep h0 T321.heap [] := Kk285.trans K321 all0
        obtain ⟨_, T327, Lc327, X327, hQ327, st327⟩ := own_virtual (W := 0) (y := mN8) (z := mN8) X321 hx hZ hown (hw _ (own_w 34 rfl)) (hw _ (own_w 35 rfl)) (notFace_of_selects (args := #[]) (mvT hZ (hw _ (own_w 37 rfl)))) (hw _ (own_w 37 rfl)) (hw _ (own_w 36 rfl)) (hw _ (own_w 38 rfl)) (hw _ (own_w 6 rfl)) (by decide) (rmRatP l Z av0 hw [] b321 ((2 : Int32) * own_o) ((2 : Int32) * (own_r p1 own_o)) T321.heap n0 Zk321 Fa321 Fc321 (own_2nz own_opos own_ole)) (by decide) (by decide) E321 (g := (mkF m 292 #[iv p0, iv p1, iv p2, iv p3, iv p0, rv b268, iv own_o, iv (own_r p1 own_o), iv (own_r p2 own_o), rv b276, rv b285, .val (.double (FP.ddiv (FP.i2d (own_r p1 own_o)) (FP.i2d own_o))), .second, .val (.double (FP.ddiv (FP.i2d (own_r p2 own_o)) (FP.i2d own_o))), .second, .unset, .unset, .unset, .unset] [(.ref b321)])) rfl (by rw [hml]; rfl) (argsL := []) (rest := []) (lenOf pd__Ljava_util_OptionalDouble_ rfl) rfl (hb hby at_292) rfl e321 (by decide : 7 + 1 ≤ _) (by decide : 38 + 2 ≤ _)
        obtain ⟨b327, rfl, N327q, gb327, K327, E327, I327, V327⟩ := hQ327
        have N327 := Fr.app N321 N327q
        have e327 : T327.heap = T327.heap := rfl
        have f328 := (f322.keep K321)
        have ne_aE_b327 : aE ≠ b327 := Nat.ne_of_lt (Nat.lt_of_lt_of_le f328.lt gb327)
        have f329 := (f323.keep K321)
        have ne_b267_b327 : b267 ≠ b327 := Nat.ne_of_lt (Nat.lt_of_lt_of_le f329.lt gb327)
        have f330 := (f324.keep K321)
        have ne_b268_b327 : b268 ≠ b327 := Nat.ne_of_lt (Nat.lt_of_lt_of_le f330.lt gb327)
        have f331 := (f325.keep K321)
        have ne_b273_b327 : b273 ≠ b327 := Nat.ne_of_lt (Nat.lt_of_lt_of_le f331.lt gb327)
        have f332 := (f293.keep K321)
        have ne_b276_b327 : b276 ≠ b327 := Nat.ne_of_lt (Nat.lt_of_lt_of_le f332.lt gb327)
        have f333 := (f326.keep K321)
        have ne_b280_b327 : b280 ≠ b327 := Nat.ne_of_lt (Nat.lt_of_lt_of_le f333.lt gb327)
        have f334 := (E285.keep K321)
        have ne_b285_b327 : b285 ≠ b327 := Nat.ne_of_lt (Nat.lt_of_lt_of_le f334.lt gb327)
        have ne_b321_b327 : b321 ≠ b327 := Nat.ne_of_lt (Nat.lt_of_lt_of_le E321.lt gb327)
        have ge_b327 : n0 ≤ b327 := Nat.le_trans Zk321 gb327
        have sz_b327 : h0.size ≤ b327 := Nat.le_trans Kk321.1 gb327
        have Zk327 : n0 ≤ T327.heap.size := Nat.le_trans Zk321 K327.1
        have Kk327 : Keep h0 T327.heap [] := Kk321.trans K327 all0
        obtain ⟨_, T335, Lc335, X335, hQ335, st335⟩ := own_virtual (W := 0) (y := mN3) (z := mN3) X327 hx hZ hown (hw _ (own_w 44 rfl)) (hw _ (own_w 45 rfl)) (notFace_of_selects (args := #[]) (mvT hZ (hw _ (own_w 47 rfl)))) (hw _ (own_w 47 rfl)) (hw _ (own_w 46 rfl)) (hw _ (own_w 48 rfl)) (hw _ (own_w 41 rfl)) (by decide) (rmIs1 l Z av0 hw [] b327 T327.heap n0 Zk327 I327) (by decide) (by decide) E327 (g := (mkF m 299 #[iv p0, iv p1, iv p2, iv p3, iv p0, rv b268, iv own_o, iv (own_r p1 own_o), iv (own_r p2 own_o), rv b276, rv b285, .val (.double (FP.ddiv (FP.i2d (own_r p1 own_o)) (FP.i2d own_o))), .second, .val (.double (FP.ddiv (FP.i2d (own_r p2 own_o)) (FP.i2d own_o))), .second, rv b327, .unset, .unset, .unset] [(.ref b327)])) rfl (by rw [hml]; rfl) (argsL := []) (rest := []) (lenOf pd__Z rfl) rfl (hb hby at_299) rfl e327 (by decide : 8 + 0 ≤ _) (by decide : 40 + 0 ≤ _)
        obtain ⟨rfl, N335q, hh335⟩ := hQ335
        have N335 := Fr.app N327 N335q
        have e335 : T335.heap = T327.heap := hh335
        obtain ⟨_, T336, Lc336, X336, hQ336, st336⟩ := own_virtual (W := 0) (y := mN4) (z := mN4) X335 hx hZ hown (hw _ (own_w 64 rfl)) (hw _ (own_w 65 rfl)) (notFace_of_selects (args := #[]) (mvT hZ (hw _ (own_w 67 rfl)))) (hw _ (own_w 67 rfl)) (hw _ (own_w 66 rfl)) (hw _ (own_w 68 rfl)) (hw _ (own_w 41 rfl)) (by decide) (rmGet l Z av0 hw [] b327 (FP.ddiv (FP.i2d ((2 : Int32) * (own_r p1 own_o))) (FP.i2d ((2 : Int32) * own_o))) T327.heap n0 Zk327 I327 V327) (by decide) (by decide) E327 (g := (mkF m 307 #[iv p0, iv p1, iv p2, iv p3, iv p0, rv b268, iv own_o, iv (own_r p1 own_o), iv (own_r p2 own_o), rv b276, rv b285, .val (.double (FP.ddiv (FP.i2d (own_r p1 own_o)) (FP.i2d own_o))), .second, .val (.double (FP.ddiv (FP.i2d (own_r p2 own_o)) (FP.i2d own_o))), .second, rv b327, .unset, .unset, .unset] [(.ref b327)])) rfl (by rw [hml]; rfl) (argsL := []) (rest := []) (lenOf pd__D rfl) rfl (hb hby at_307) rfl e335 (by decide : 8 + 0 ≤ _) (by decide : 40 + 0 ≤ _)
        obtain ⟨rfl, N336q, hh336⟩ := hQ336
        have N336 := Fr.app N335 N336q
        have e336 : T336.heap = T327.heap := hh336
        obtain ⟨_, T337, Lc337, X337, hQ337, st337⟩ := own_callS (W := 0) (y := mN7) X336 hx hZ hown (hw _ (own_w 0 rfl)) (hw _ (own_w 1 rfl)) (hw _ (own_w 2 rfl)) (hw _ (own_w 3 rfl)) (by decide) (rmMk l Z av0 hw [] (own_pp p3) (own_r p2 (own_pp p3)) T327.heap n0 Zk327 ) (by decide) (by decide) (g := (mkF m 350 #[iv p0, iv p1, iv p2, iv p3, iv p0, rv b268, iv own_o, iv (own_r p1 own_o), iv (own_r p2 own_o), rv b276, rv b285, .val (.double (FP.ddiv (FP.i2d (own_r p1 own_o)) (FP.i2d own_o))), .second, .val (.double (FP.ddiv (FP.i2d (own_r p2 own_o)) (FP.i2d own_o))), .second, iv (own_kk p3), iv (own_pp p3), iv ((own_r p2 (own_pp p3))), .unset] [(.int (own_r p2 (own_pp p3))), (.int (own_pp p3))])) rfl (by rw [hml]; rfl) (argsL := [(.int (own_pp p3)), (.int (own_r p2 (own_pp p3)))]) (rest := []) (lenOf pd__II_Lcom_example_graftwork_graftwork_simulate_Summary_ rfl) rfl (hb hby at_350) rfl e336 (by decide : 8 + 1 ≤ _) (by decide : 40 + 8 ≤ _)
        obtain ⟨b337, rfl, N337q, gb337, K337, E337, Fa337, Fc337⟩ := hQ337
        have N337 := Fr.app N336 N337q
        have e337 : T337.heap = T337.heap := rfl
        have f338 := (f328.keep K327)
        have ne_aE_b337 : aE ≠ b337 := Nat.ne_of_lt (Nat.lt_of_lt_of_le f338.lt gb337)
        have f339 := (f329.keep K327)
        have ne_b267_b337 : b267 ≠ b337 := Nat.ne_of_lt (Nat.lt_of_lt_of_le f339.lt gb337)
        have f340 := (f330.keep K327)
        have ne_b268_b337 : b268 ≠ b337 := Nat.ne_of_lt (Nat.lt_of_lt_of_le f340.lt gb337)
        have f341 := (f331.keep K327)
        have ne_b273_b337 : b273 ≠ b337 := Nat.ne_of_lt (Nat.lt_of_lt_of_le f341.lt gb337)
        have f342 := (f332.keep K327)
        have ne_b276_b337 : b276 ≠ b337 := Nat.ne_of_lt (Nat.lt_of_lt_of_le f342.lt gb337)
        have f343 := (f333.keep K327)
        have ne_b280_b337 : b280 ≠ b337 := Nat.ne_of_lt (Nat.lt_of_lt_of_le f343.lt gb337)
        have f344 := (f334.keep K327)
        have ne_b285_b337 : b285 ≠ b337 := Nat.ne_of_lt (Nat.lt_of_lt_of_le f344.lt gb337)
        have f345 := (E321.keep K327)
        have ne_b321_b337 : b321 ≠ b337 := Nat.ne_of_lt (Nat.lt_of_lt_of_le f345.lt gb337)
        have ne_b327_b337 : b327 ≠ b337 := Nat.ne_of_lt (Nat.lt_of_lt_of_le E327.lt gb337)
        have ge_b337 : n0 ≤ b337 := Nat.le_trans Zk327 gb337
        have sz_b337 : h0.size ≤ b337 := Nat.le_trans Kk327.1 gb337
        have Zk337 : n0 ≤ T337.heap.size := Nat.le_trans Zk327 K337.1
        have Kk337 : Keep h0 T337.heap [] := Kk327.trans K337 all0
        obtain ⟨_, T346, Lc346, X346, hQ346, st346⟩ := own_virtual (W := 0) (y := mN8) (z := mN8) X337 hx hZ hown (hw _ (own_w 34 rfl)) (hw _ (own_w 35 rfl)) (notFace_of_selects (args := #[]) (mvT hZ (hw _ (own_w 37 rfl)))) (hw _ (own_w 37 rfl)) (hw _ (own_w 36 rfl)) (hw _ (own_w 38 rfl)) (hw _ (own_w 6 rfl)) (by decide) (rmRatP l Z av0 hw [] b337 (own_pp p3) (own_r p2 (own_pp p3)) T337.heap n0 Zk337 Fa337 Fc337 (own_pnz (own_ppos p3))) (by decide) (by decide) E337 (g := (mkF m 353 #[iv p0, iv p1, iv p2, iv p3, iv p0, rv b268, iv own_o, iv (own_r p1 own_o), iv (own_r p2 own_o), rv b276, rv b285, .val (.double (FP.ddiv (FP.i2d (own_r p1 own_o)) (FP.i2d own_o))), .second, .val (.double (FP.ddiv (FP.i2d (own_r p2 own_o)) (FP.i2d own_o))), .second, iv (own_kk p3), iv (own_pp p3), iv ((own_r p2 (own_pp p3))), .unset] [(.ref b337)])) rfl (by rw [hml]; rfl) (argsL := []) (rest := []) (lenOf pd__Ljava_util_OptionalDouble_ rfl) rfl (hb hby at_353) rfl e337 (by decide : 9 + 1 ≤ _) (by decide : 48 + 2 ≤ _)
        obtain ⟨b346, rfl, N346q, gb346, K346, E346, I346, V346⟩ := hQ346
        have N346 := Fr.app N337 N346q
        have e346 : T346.heap = T346.heap := rfl
        have f347 := (f338.keep K337)
        have ne_aE_b346 : aE ≠ b346 := Nat.ne_of_lt (Nat.lt_of_lt_of_le f347.lt gb346)
        have f348 := (f339.keep K337)
        have ne_b267_b346 : b267 ≠ b346 := Nat.ne_of_lt (Nat.lt_of_lt_of_le f348.lt gb346)
        have f349 := (f340.keep K337)
        have ne_b268_b346 : b268 ≠ b346 := Nat.ne_of_lt (Nat.lt_of_lt_of_le f349.lt gb346)
        have f350 := (f341.keep K337)
        have ne_b273_b346 : b273 ≠ b346 := Nat.ne_of_lt (Nat.lt_of_lt_of_le f350.lt gb346)
        have f351 := (f342.keep K337)
        have ne_b276_b346 : b276 ≠ b346 := Nat.ne_of_lt (Nat.lt_of_lt_of_le f351.lt gb346)
        have f352 := (f343.keep K337)
        have ne_b280_b346 : b280 ≠ b346 := Nat.ne_of_lt (Nat.lt_of_lt_of_le f352.lt gb346)
        have f353 := (f344.keep K337)
        have ne_b285_b346 : b285 ≠ b346 := Nat.ne_of_lt (Nat.lt_of_lt_of_le f353.lt gb346)
        have f354 := (f345.keep K337)
        have ne_b321_b346 : b321 ≠ b346 := Nat.ne_of_lt (Nat.lt_of_lt_of_le f354.lt gb346)
        have f355 := (E327.keep K337)
        have ne_b327_b346 : b327 ≠ b346 := Nat.ne_of_lt (Nat.lt_of_lt_of_le f355.lt gb346)
        have ne_b337_b346 : b337 ≠ b346 := Nat.ne_of_lt (Nat.lt_of_lt_of_le E337.lt gb346)
        have ge_b346 : n0 ≤ b346 := Nat.le_trans Zk337 gb346
        have sz_b346 : h0.size ≤ b346 := Nat.le_trans Kk337.1 gb346
        have Zk346 : n0 ≤ T346.heap.size := Nat.le_trans Zk337 K346.1
        have Kk346 : Keep h0 T346.heap [] := Kk337.trans K346 all0
        obtain ⟨_, T356, Lc356, X356, hQ356, st356⟩ := own_virtual (W := 0) (y := mN3) (z := mN3) X346 hx hZ hown (hw _ (own_w 44 rfl)) (hw _ (own_w 45 rfl)) (notFace_of_selects (args := #[]) (mvT hZ (hw _ (own_w 47 rfl)))) (hw _ (own_w 47 rfl)) (hw _ (own_w 46 rfl)) (hw _ (own_w 48 rfl)) (hw _ (own_w 41 rfl)) (by decide) (rmIs1 l Z av0 hw [] b346 T346.heap n0 Zk346 I346) (by decide) (by decide) E346 (g := (mkF m 360 #[iv p0, iv p1, iv p2, iv p3, iv p0, rv b268, iv own_o, iv (own_r p1 own_o), iv (own_r p2 own_o), rv b276, rv b285, .val (.double (FP.ddiv (FP.i2d (own_r p1 own_o)) (FP.i2d own_o))), .second, .val (.double (FP.ddiv (FP.i2d (own_r p2 own_o)) (FP.i2d own_o))), .second, iv (own_kk p3), iv (own_pp p3), iv ((own_r p2 (own_pp p3))), rv b346] [(.ref b346)])) rfl (by rw [hml]; rfl) (argsL := []) (rest := []) (lenOf pd__Z rfl) rfl (hb hby at_360) rfl e346 (by decide : 10 + 0 ≤ _) (by decide : 50 + 0 ≤ _)
        obtain ⟨rfl, N356q, hh356⟩ := hQ356
        have N356 := Fr.app N346 N356q
        have e356 : T356.heap = T346.heap := hh356
        obtain ⟨_, T357, Lc357, X357, hQ357, st357⟩ := own_virtual (W := 0) (y := mN4) (z := mN4) X356 hx hZ hown (hw _ (own_w 64 rfl)) (hw _ (own_w 65 rfl)) (notFace_of_selects (args := #[]) (mvT hZ (hw _ (own_w 67 rfl)))) (hw _ (own_w 67 rfl)) (hw _ (own_w 66 rfl)) (hw _ (own_w 68 rfl)) (hw _ (own_w 41 rfl)) (by decide) (rmGet l Z av0 hw [] b346 (FP.ddiv (FP.i2d (own_r p2 (own_pp p3))) (FP.i2d (own_pp p3))) T346.heap n0 Zk346 I346 V346) (by decide) (by decide) E346 (g := (mkF m 370 #[iv p0, iv p1, iv p2, iv p3, iv p0, rv b268, iv own_o, iv (own_r p1 own_o), iv (own_r p2 own_o), rv b276, rv b285, .val (.double (FP.ddiv (FP.i2d (own_r p1 own_o)) (FP.i2d own_o))), .second, .val (.double (FP.ddiv (FP.i2d (own_r p2 own_o)) (FP.i2d own_o))), .second, iv (own_kk p3), iv (own_pp p3), iv ((own_r p2 (own_pp p3))), rv b346] [(.ref b346)])) rfl (by rw [hml]; rfl) (argsL := []) (rest := []) (lenOf pd__D rfl) rfl (hb hby at_370) rfl e356 (by decide : 10 + 0 ≤ _) (by decide : 50 + 0 ≤ _)
        obtain ⟨rfl, N357q, hh357⟩ := hQ357
        have N357 := Fr.app N356 N357q
        have e357 : T357.heap = T346.heap := hh357
        have S358 : ∀ tz, oS p e below T357 (mkF m 389 #[iv p0, iv p1, iv p2, iv p3, iv p0, rv b268, iv own_o, iv (own_r p1 own_o), iv (own_r p2 own_o), rv b276, rv b285, .val (.double (FP.ddiv (FP.i2d (own_r p1 own_o)) (FP.i2d own_o))), .second, .val (.double (FP.ddiv (FP.i2d (own_r p2 own_o)) (FP.i2d own_o))), .second, iv (own_kk p3), iv (own_pp p3), iv ((own_r p2 (own_pp p3))), rv b346] [(.int 1)]) tz → oS p e below s₁ (mkF m 0 #[iv p0, iv p1, iv p2, iv p3, .unset, .unset, .unset, .unset, .unset, .unset, .unset, .unset, .unset, .unset, .unset, .unset, .unset, .unset, .unset] []) tz := fun tz kz => S316 tz (by
          show oS p e below T297 (mkF m 244 #[iv p0, iv p1, iv p2, iv p3, iv p0, rv b268, iv own_o, iv (own_r p1 own_o), iv (own_r p2 own_o), rv b276, rv b285, .val (.double (FP.ddiv (FP.i2d (own_r p1 own_o)) (FP.i2d own_o))), .second, .val (.double (FP.ddiv (FP.i2d (own_r p2 own_o)) (FP.i2d own_o))), .second, .unset, .unset, .unset, .unset] []) _
          refine M317 _ ?_
          show oS p e below T297 (mkF m 274 #[iv p0, iv p1, iv p2, iv p3, iv p0, rv b268, iv own_o, iv (own_r p1 own_o), iv (own_r p2 own_o), rv b276, rv b285, .val (.double (FP.ddiv (FP.i2d (own_r p1 own_o)) (FP.i2d own_o))), .second, .val (.double (FP.ddiv (FP.i2d (own_r p2 own_o)) (FP.i2d own_o))), .second, .unset, .unset, .unset, .unset] []) _
          refine XS.iload X297.here hx rfl (hb hby at_274) rfl ?_
          refine X297.ldcI hx hown (mvT hZ (hw _ (own_w 69 rfl))) rfl (hb hby at_276) ?_
          refine XS.icmpNo X297.here hx rfl (hb hby at_278) rfl (XT.ii_gt_f own_ole) ?_
          refine XT.iconstV X297.here hx rfl (2 : Int32) (hb hby at_281) (by decide) ?_
          refine XS.iload X297.here hx rfl (hb hby at_282) rfl ?_
          refine XS.imul X297.here hx rfl (hb hby at_284) rfl ?_
          refine XT.iconstV X297.here hx rfl (2 : Int32) (hb hby at_285) (by decide) ?_
          refine XS.iload X297.here hx rfl (hb hby at_286) rfl ?_
          refine XS.imul X297.here hx rfl (hb hby at_288) rfl ?_
          show oS p e below T297 (mkF m 289 #[iv p0, iv p1, iv p2, iv p3, iv p0, rv b268, iv own_o, iv (own_r p1 own_o), iv (own_r p2 own_o), rv b276, rv b285, .val (.double (FP.ddiv (FP.i2d (own_r p1 own_o)) (FP.i2d own_o))), .second, .val (.double (FP.ddiv (FP.i2d (own_r p2 own_o)) (FP.i2d own_o))), .second, .unset, .unset, .unset, .unset] [(.int ((2 : Int32) * (own_r p1 own_o))), (.int ((2 : Int32) * own_o))]) _
          refine st321 _ ?_
          refine st327 _ ?_
          refine XS.astore X327.here hx rfl (hb hby at_295) rfl rfl (l' := #[iv p0, iv p1, iv p2, iv p3, iv p0, rv b268, iv own_o, iv (own_r p1 own_o), iv (own_r p2 own_o), rv b276, rv b285, .val (.double (FP.ddiv (FP.i2d (own_r p1 own_o)) (FP.i2d own_o))), .second, .val (.double (FP.ddiv (FP.i2d (own_r p2 own_o)) (FP.i2d own_o))), .second, rv b327, .unset, .unset, .unset]) rfl ?_
          refine XS.aload X327.here hx rfl (hb hby at_297) rfl rfl ?_
          refine st335 _ ?_
          refine XS.ifNo X335.here hx rfl (hb hby at_302) rfl (XT.i0_eq_f (by decide)) ?_
          refine XS.aload X335.here hx rfl (hb hby at_305) rfl rfl ?_
          refine st336 _ ?_
          refine XS.dload X336.here hx rfl (hb hby at_310) rfl ?_
          refine XS.dcmpS X336.here hx rfl (hb hby at_312) rfl rfl ?_
          show oS p e below T336 (mkF m 313 #[iv p0, iv p1, iv p2, iv p3, iv p0, rv b268, iv own_o, iv (own_r p1 own_o), iv (own_r p2 own_o), rv b276, rv b285, .val (.double (FP.ddiv (FP.i2d (own_r p1 own_o)) (FP.i2d own_o))), .second, .val (.double (FP.ddiv (FP.i2d (own_r p2 own_o)) (FP.i2d own_o))), .second, rv b327, .unset, .unset, .unset] [(.int (cmpValue (FP.dcmp (FP.ddiv (FP.i2d ((2 : Int32) * (own_r p1 own_o))) (FP.i2d ((2 : Int32) * own_o))) (FP.ddiv (FP.i2d (own_r p1 own_o)) (FP.i2d own_o))) .l))]) _
          refine XS.ifYes X336.here hx rfl (pc0 := 313) (pc' := 318) rfl (hb hby at_313) rfl (XT.i0_eq_t (own_t2 (own_rv p1 own_opos) own_opos own_ole)) (by decide) (by decide) ?_
          refine XS.iloadN X336.here hx rfl (hb hby at_318) rfl ?_
          refine XT.iconstV X336.here hx rfl (1 : Int32) (hb hby at_319) (by decide) ?_
          refine XT.iushr X336.here hx rfl (hb hby at_320) rfl ?_
          refine XT.bipushV X336.here hx rfl (31 : Int32) (hb hby at_321) (by decide) ?_
          refine XS.irem X336.here hx rfl (hb hby at_323) rfl (by decide) ?_
          show oS p e below T336 (mkF m 324 #[iv p0, iv p1, iv p2, iv p3, iv p0, rv b268, iv own_o, iv (own_r p1 own_o), iv (own_r p2 own_o), rv b276, rv b285, .val (.double (FP.ddiv (FP.i2d (own_r p1 own_o)) (FP.i2d own_o))), .second, .val (.double (FP.ddiv (FP.i2d (own_r p2 own_o)) (FP.i2d own_o))), .second, rv b327, .unset, .unset, .unset] [(.int ((XT.ushr p3 (1 : Int32)) - ((XT.ushr p3 (1 : Int32)) / (31 : Int32)) * (31 : Int32)))]) _
          skip
          show oS p e below T336 (mkF m 324 #[iv p0, iv p1, iv p2, iv p3, iv p0, rv b268, iv own_o, iv (own_r p1 own_o), iv (own_r p2 own_o), rv b276, rv b285, .val (.double (FP.ddiv (FP.i2d (own_r p1 own_o)) (FP.i2d own_o))), .second, .val (.double (FP.ddiv (FP.i2d (own_r p2 own_o)) (FP.i2d own_o))), .second, rv b327, .unset, .unset, .unset] [(.int (own_kk p3))]) _
          refine XS.istore X336.here hx rfl (hb hby at_324) rfl (l' := #[iv p0, iv p1, iv p2, iv p3, iv p0, rv b268, iv own_o, iv (own_r p1 own_o), iv (own_r p2 own_o), rv b276, rv b285, .val (.double (FP.ddiv (FP.i2d (own_r p1 own_o)) (FP.i2d own_o))), .second, .val (.double (FP.ddiv (FP.i2d (own_r p2 own_o)) (FP.i2d own_o))), .second, iv (own_kk p3), .unset, .unset, .unset]) rfl ?_
          refine XT.iconstV X336.here hx rfl (1 : Int32) (hb hby at_326) (by decide) ?_
          refine XS.iload X336.here hx rfl (hb hby at_327) rfl ?_
          show oS p e below T336 (mkF m 329 #[iv p0, iv p1, iv p2, iv p3, iv p0, rv b268, iv own_o, iv (own_r p1 own_o), iv (own_r p2 own_o), rv b276, rv b285, .val (.double (FP.ddiv (FP.i2d (own_r p1 own_o)) (FP.i2d own_o))), .second, .val (.double (FP.ddiv (FP.i2d (own_r p2 own_o)) (FP.i2d own_o))), .second, iv (own_kk p3), .unset, .unset, .unset] [(.int (own_kk p3)), (.int 1)]) _
          refine XT.ishl X336.here hx rfl (hb hby at_329) rfl ?_
          show oS p e below T336 (mkF m 330 #[iv p0, iv p1, iv p2, iv p3, iv p0, rv b268, iv own_o, iv (own_r p1 own_o), iv (own_r p2 own_o), rv b276, rv b285, .val (.double (FP.ddiv (FP.i2d (own_r p1 own_o)) (FP.i2d own_o))), .second, .val (.double (FP.ddiv (FP.i2d (own_r p2 own_o)) (FP.i2d own_o))), .second, iv (own_kk p3), .unset, .unset, .unset] [(.int ((1 : Int32) <<< ((own_kk p3) &&& 31)))]) _
          skip
          show oS p e below T336 (mkF m 330 #[iv p0, iv p1, iv p2, iv p3, iv p0, rv b268, iv own_o, iv (own_r p1 own_o), iv (own_r p2 own_o), rv b276, rv b285, .val (.double (FP.ddiv (FP.i2d (own_r p1 own_o)) (FP.i2d own_o))), .second, .val (.double (FP.ddiv (FP.i2d (own_r p2 own_o)) (FP.i2d own_o))), .second, iv (own_kk p3), .unset, .unset, .unset] [(.int (own_pp p3))]) _
          refine XS.istore X336.here hx rfl (hb hby at_330) rfl (l' := #[iv p0, iv p1, iv p2, iv p3, iv p0, rv b268, iv own_o, iv (own_r p1 own_o), iv (own_r p2 own_o), rv b276, rv b285, .val (.double (FP.ddiv (FP.i2d (own_r p1 own_o)) (FP.i2d own_o))), .second, .val (.double (FP.ddiv (FP.i2d (own_r p2 own_o)) (FP.i2d own_o))), .second, iv (own_kk p3), iv (own_pp p3), .unset, .unset]) rfl ?_
          refine XS.iloadN X336.here hx rfl (hb hby at_332) rfl ?_
          refine X336.ldcI hx hown (mvT hZ (hw _ (own_w 51 rfl))) rfl (hb hby at_333) ?_
          refine XS.iand X336.here hx rfl (hb hby at_335) rfl ?_
          show oS p e below T336 (mkF m 336 #[iv p0, iv p1, iv p2, iv p3, iv p0, rv b268, iv own_o, iv (own_r p1 own_o), iv (own_r p2 own_o), rv b276, rv b285, .val (.double (FP.ddiv (FP.i2d (own_r p1 own_o)) (FP.i2d own_o))), .second, .val (.double (FP.ddiv (FP.i2d (own_r p2 own_o)) (FP.i2d own_o))), .second, iv (own_kk p3), iv (own_pp p3), .unset, .unset] [(.int (p2 &&& (2147483647 : Int32)))]) _
          skip
          show oS p e below T336 (mkF m 336 #[iv p0, iv p1, iv p2, iv p3, iv p0, rv b268, iv own_o, iv (own_r p1 own_o), iv (own_r p2 own_o), rv b276, rv b285, .val (.double (FP.ddiv (FP.i2d (own_r p1 own_o)) (FP.i2d own_o))), .second, .val (.double (FP.ddiv (FP.i2d (own_r p2 own_o)) (FP.i2d own_o))), .second, iv (own_kk p3), iv (own_pp p3), .unset, .unset] [(.int (own_m p2))]) _
          refine XT.i2l X336.here hx rfl (hb hby at_336) rfl ?_
          refine XS.iload X336.here hx rfl (hb hby at_337) rfl ?_
          refine XT.i2l X336.here hx rfl (hb hby at_339) rfl ?_
          show oS p e below T336 (mkF m 340 #[iv p0, iv p1, iv p2, iv p3, iv p0, rv b268, iv own_o, iv (own_r p1 own_o), iv (own_r p2 own_o), rv b276, rv b285, .val (.double (FP.ddiv (FP.i2d (own_r p1 own_o)) (FP.i2d own_o))), .second, .val (.double (FP.ddiv (FP.i2d (own_r p2 own_o)) (FP.i2d own_o))), .second, iv (own_kk p3), iv (own_pp p3), .unset, .unset] [(.long ((own_pp p3)).toInt64), (.long ((own_m p2)).toInt64)]) _
          refine XT.lconstV X336.here hx rfl (1 : Int64) (hb hby at_340) (by decide) ?_
          refine XT.ladd X336.here hx rfl (hb hby at_341) rfl ?_
          refine XT.lrem X336.here hx rfl (hb hby at_342) rfl (own_lnz (own_ppos p3)) ?_
          refine XT.l2i X336.here hx rfl (hb hby at_343) rfl ?_
          show oS p e below T336 (mkF m 344 #[iv p0, iv p1, iv p2, iv p3, iv p0, rv b268, iv own_o, iv (own_r p1 own_o), iv (own_r p2 own_o), rv b276, rv b285, .val (.double (FP.ddiv (FP.i2d (own_r p1 own_o)) (FP.i2d own_o))), .second, .val (.double (FP.ddiv (FP.i2d (own_r p2 own_o)) (FP.i2d own_o))), .second, iv (own_kk p3), iv (own_pp p3), .unset, .unset] [(.int ((((own_m p2)).toInt64 - (((own_m p2)).toInt64 / (((own_pp p3)).toInt64 + (1 : Int64))) * (((own_pp p3)).toInt64 + (1 : Int64)))).toInt32)]) _
          skip
          show oS p e below T336 (mkF m 344 #[iv p0, iv p1, iv p2, iv p3, iv p0, rv b268, iv own_o, iv (own_r p1 own_o), iv (own_r p2 own_o), rv b276, rv b285, .val (.double (FP.ddiv (FP.i2d (own_r p1 own_o)) (FP.i2d own_o))), .second, .val (.double (FP.ddiv (FP.i2d (own_r p2 own_o)) (FP.i2d own_o))), .second, iv (own_kk p3), iv (own_pp p3), .unset, .unset] [(.int (own_r p2 (own_pp p3)))]) _
          refine XS.istore X336.here hx rfl (hb hby at_344) rfl (l' := #[iv p0, iv p1, iv p2, iv p3, iv p0, rv b268, iv own_o, iv (own_r p1 own_o), iv (own_r p2 own_o), rv b276, rv b285, .val (.double (FP.ddiv (FP.i2d (own_r p1 own_o)) (FP.i2d own_o))), .second, .val (.double (FP.ddiv (FP.i2d (own_r p2 own_o)) (FP.i2d own_o))), .second, iv (own_kk p3), iv (own_pp p3), iv ((own_r p2 (own_pp p3))), .unset]) rfl ?_
          refine XS.iload X336.here hx rfl (hb hby at_346) rfl ?_
          refine XS.iload X336.here hx rfl (hb hby at_348) rfl ?_
          refine st337 _ ?_
          refine st346 _ ?_
          show oS p e below T346 (mkF m 356 #[iv p0, iv p1, iv p2, iv p3, iv p0, rv b268, iv own_o, iv (own_r p1 own_o), iv (own_r p2 own_o), rv b276, rv b285, .val (.double (FP.ddiv (FP.i2d (own_r p1 own_o)) (FP.i2d own_o))), .second, .val (.double (FP.ddiv (FP.i2d (own_r p2 own_o)) (FP.i2d own_o))), .second, iv (own_kk p3), iv (own_pp p3), iv ((own_r p2 (own_pp p3))), .unset] [(.ref b346)]) _
          refine XS.astore X346.here hx rfl (hb hby at_356) rfl rfl (l' := #[iv p0, iv p1, iv p2, iv p3, iv p0, rv b268, iv own_o, iv (own_r p1 own_o), iv (own_r p2 own_o), rv b276, rv b285, .val (.double (FP.ddiv (FP.i2d (own_r p1 own_o)) (FP.i2d own_o))), .second, .val (.double (FP.ddiv (FP.i2d (own_r p2 own_o)) (FP.i2d own_o))), .second, iv (own_kk p3), iv (own_pp p3), iv ((own_r p2 (own_pp p3))), rv b346]) rfl ?_
          refine XS.aload X346.here hx rfl (hb hby at_358) rfl rfl ?_
          refine st356 _ ?_
          refine XS.ifYes X356.here hx rfl (pc0 := 363) (pc' := 368) rfl (hb hby at_363) rfl (XT.i0_ne_t (by decide)) (by decide) (by decide) ?_
          refine XS.aload X356.here hx rfl (hb hby at_368) rfl rfl ?_
          refine st357 _ ?_
          refine XS.iload X357.here hx rfl (hb hby at_373) rfl ?_
          refine XS.i2dS X357.here hx rfl (hb hby at_375) rfl rfl ?_
          refine XS.dmulS X357.here hx rfl (hb hby at_376) rfl (Jvm.Free.Fl.val64_no.mpr (Own.own_nnI (own_bk p2 p3))) rfl ?_
          refine XS.iload X357.here hx rfl (hb hby at_377) rfl ?_
          show oS p e below T357 (mkF m 379 #[iv p0, iv p1, iv p2, iv p3, iv p0, rv b268, iv own_o, iv (own_r p1 own_o), iv (own_r p2 own_o), rv b276, rv b285, .val (.double (FP.ddiv (FP.i2d (own_r p1 own_o)) (FP.i2d own_o))), .second, .val (.double (FP.ddiv (FP.i2d (own_r p2 own_o)) (FP.i2d own_o))), .second, iv (own_kk p3), iv (own_pp p3), iv ((own_r p2 (own_pp p3))), rv b346] [(.int (own_r p2 (own_pp p3))), (.double (FP.dmul (FP.ddiv (FP.i2d (own_r p2 (own_pp p3))) (FP.i2d (own_pp p3))) (FP.i2d (own_pp p3))))]) _
          refine XS.i2dS X357.here hx rfl (hb hby at_379) rfl rfl ?_
          refine XS.dcmpS X357.here hx rfl (hb hby at_380) rfl rfl ?_
          refine XS.ifNo X357.here hx rfl (hb hby at_381) rfl (XT.i0_ne_f (own_e0 (Own.own_cmpI (own_bk p2 p3) (Jvm.FP.Core.i2d_int _)))) ?_
          refine XT.iconstV X357.here hx rfl (1 : Int32) (hb hby at_384) (by decide) ?_
          refine XS.goto X357.here hx rfl (pc0 := 385) (pc' := 389) rfl (hb hby at_385) (by decide) (by decide) ?_
          exact kz)
        obtain ⟨fs, hr, hrun, hended, hW, hsame⟩ := X357.leave (v := some (.int 1)) (fun h => by rw [Bd.returns] at h; cases h)
        refine ⟨_, _, pre0 _ (S358 _ ?_), hrun, hended, _, _, rfl, ?_, ⟨_, rfl⟩, hW, hsame.mono (by decide) (by decide)⟩
        · exact retN X357 hx (t := .boolean) Bd.returns (by simp) (hb hby at_389) hr
        · show Qrm0 Z p0 p1 p2 p3 aE h0 n0 _ T357.heap _
          rw [e357]
          exact ⟨rfl, N357⟩
      · obtain ⟨_, T359, Lc359, X359, hQ359, st359⟩ := own_callS (W := 0) (y := mN7) X270 hx hZ hown (hw _ (own_w 0 rfl)) (hw _ (own_w 1 rfl)) (hw _ (own_w 2 rfl)) (hw _ (own_w 3 rfl)) (by decide) (rmMk l Z av0 hw [] (own_m p0) (own_r p1 (own_m p0)) T268.heap n0 Zk268 ) (by decide) (by decide) (g := (mkF m 90 #[iv p0, iv p1, iv p2, iv p3, iv p0, rv b268, iv (own_m p0), iv ((own_r p1 (own_m p0))), iv ((own_r p2 (own_m p0))), .unset, .unset, .unset, .unset, .unset, .unset, .unset, .unset, .unset, .unset] [(.int (own_r p1 (own_m p0))), (.int (own_m p0))])) rfl (by rw [hml]; rfl) (argsL := [(.int (own_m p0)), (.int (own_r p1 (own_m p0)))]) (rest := []) (lenOf pd__II_Lcom_example_graftwork_graftwork_simulate_Summary_ rfl) rfl (hb hby at_90) rfl e270 (by decide : 2 + 1 ≤ _) (by decide : 10 + 8 ≤ _)
        obtain ⟨b359, rfl, N359q, gb359, K359, E359, Fa359, Fc359⟩ := hQ359
        have N359 := Fr.app N270 N359q
        have e359 : T359.heap = T359.heap := rfl
        have f360 := (f269.keep K268)
        have ne_aE_b359 : aE ≠ b359 := Nat.ne_of_lt (Nat.lt_of_lt_of_le f360.lt gb359)
        have f361 := (E267.keep K268)
        have ne_b267_b359 : b267 ≠ b359 := Nat.ne_of_lt (Nat.lt_of_lt_of_le f361.lt gb359)
        have ne_b268_b359 : b268 ≠ b359 := Nat.ne_of_lt (Nat.lt_of_lt_of_le E268.lt gb359)
        have ge_b359 : n0 ≤ b359 := Nat.le_trans Zk268 gb359
        have sz_b359 : h0.size ≤ b359 := Nat.le_trans Kk268.1 gb359
        have Zk359 : n0 ≤ T359.heap.size := Nat.le_trans Zk268 K359.1
        have Kk359 : Keep h0 T359.heap [] := Kk268.trans K359 all0
        obtain ⟨_, T362, Lc362, X362, hQ362, st362⟩ := own_virtual (W := 0) (y := mN8) (z := mN8) X359 hx hZ hown (hw _ (own_w 34 rfl)) (hw _ (own_w 35 rfl)) (notFace_of_selects (args := #[]) (mvT hZ (hw _ (own_w 37 rfl)))) (hw _ (own_w 37 rfl)) (hw _ (own_w 36 rfl)) (hw _ (own_w 38 rfl)) (hw _ (own_w 6 rfl)) (by decide) (rmRatP l Z av0 hw [] b359 (own_m p0) (own_r p1 (own_m p0)) T359.heap n0 Zk359 Fa359 Fc359 hc52_272) (by decide) (by decide) E359 (g := (mkF m 93 #[iv p0, iv p1, iv p2, iv p3, iv p0, rv b268, iv (own_m p0), iv ((own_r p1 (own_m p0))), iv ((own_r p2 (own_m p0))), .unset, .unset, .unset, .unset, .unset, .unset, .unset, .unset, .unset, .unset] [(.ref b359)])) rfl (by rw [hml]; rfl) (argsL := []) (rest := []) (lenOf pd__Ljava_util_OptionalDouble_ rfl) rfl (hb hby at_93) rfl e359 (by decide : 3 + 1 ≤ _) (by decide : 18 + 2 ≤ _)
        obtain ⟨b362, rfl, N362q, gb362, K362, E362, I362, V362⟩ := hQ362
        have N362 := Fr.app N359 N362q
        have e362 : T362.heap = T362.heap := rfl
        have f363 := (f360.keep K359)
        have ne_aE_b362 : aE ≠ b362 := Nat.ne_of_lt (Nat.lt_of_lt_of_le f363.lt gb362)
        have f364 := (f361.keep K359)
        have ne_b267_b362 : b267 ≠ b362 := Nat.ne_of_lt (Nat.lt_of_lt_of_le f364.lt gb362)
        have f365 := (E268.keep K359)
        have ne_b268_b362 : b268 ≠ b362 := Nat.ne_of_lt (Nat.lt_of_lt_of_le f365.lt gb362)
        have ne_b359_b362 : b359 ≠ b362 := Nat.ne_of_lt (Nat.lt_of_lt_of_le E359.lt gb362)
        have ge_b362 : n0 ≤ b362 := Nat.le_trans Zk359 gb362
        have sz_b362 : h0.size ≤ b362 := Nat.le_trans Kk359.1 gb362
        have Zk362 : n0 ≤ T362.heap.size := Nat.le_trans Zk359 K362.1
        have Kk362 : Keep h0 T362.heap [] := Kk359.trans K362 all0
        obtain ⟨_, T366, Lc366, X366, hQ366, st366⟩ := own_callS (W := 0) (y := mN7) X362 hx hZ hown (hw _ (own_w 0 rfl)) (hw _ (own_w 1 rfl)) (hw _ (own_w 2 rfl)) (hw _ (own_w 3 rfl)) (by decide) (rmMk l Z av0 hw [] (own_m p0) (own_r p2 (own_m p0)) T362.heap n0 Zk362 ) (by decide) (by decide) (g := (mkF m 102 #[iv p0, iv p1, iv p2, iv p3, iv p0, rv b268, iv (own_m p0), iv ((own_r p1 (own_m p0))), iv ((own_r p2 (own_m p0))), rv b362, .unset, .unset, .unset, .unset, .unset, .unset, .unset, .unset, .unset] [(.int (own_r p2 (own_m p0))), (.int (own_m p0))])) rfl (by rw [hml]; rfl) (argsL := [(.int (own_m p0)), (.int (own_r p2 (own_m p0)))]) (rest := []) (lenOf pd__II_Lcom_example_graftwork_graftwork_simulate_Summary_ rfl) rfl (hb hby at_102) rfl e362 (by decide : 4 + 1 ≤ _) (by decide : 20 + 8 ≤ _)
        obtain ⟨b366, rfl, N366q, gb366, K366, E366, Fa366, Fc366⟩ := hQ366
        have N366 := Fr.app N362 N366q
        have e366 : T366.heap = T366.heap := rfl
        have f367 := (f363.keep K362)
        have ne_aE_b366 : aE ≠ b366 := Nat.ne_of_lt (Nat.lt_of_lt_of_le f367.lt gb366)
        have f368 := (f364.keep K362)
        have ne_b267_b366 : b267 ≠ b366 := Nat.ne_of_lt (Nat.lt_of_lt_of_le f368.lt gb366)
        have f369 := (f365.keep K362)
        have ne_b268_b366 : b268 ≠ b366 := Nat.ne_of_lt (Nat.lt_of_lt_of_le f369.lt gb366)
        have f370 := (E359.keep K362)
        have ne_b359_b366 : b359 ≠ b366 := Nat.ne_of_lt (Nat.lt_of_lt_of_le f370.lt gb366)
        have ne_b362_b366 : b362 ≠ b366 := Nat.ne_of_lt (Nat.lt_of_lt_of_le E362.lt gb366)
        have ge_b366 : n0 ≤ b366 := Nat.le_trans Zk362 gb366
        have sz_b366 : h0.size ≤ b366 := Nat.le_trans Kk362.1 gb366
        have Zk366 : n0 ≤ T366.heap.size := Nat.le_trans Zk362 K366.1
        have Kk366 : Keep h0 T366.heap [] := Kk362.trans K366 all0
        obtain ⟨_, T371, Lc371, X371, hQ371, st371⟩ := own_virtual (W := 0) (y := mN8) (z := mN8) X366 hx hZ hown (hw _ (own_w 34 rfl)) (hw _ (own_w 35 rfl)) (notFace_of_selects (args := #[]) (mvT hZ (hw _ (own_w 37 rfl)))) (hw _ (own_w 37 rfl)) (hw _ (own_w 36 rfl)) (hw _ (own_w 38 rfl)) (hw _ (own_w 6 rfl)) (by decide) (rmRatP l Z av0 hw [] b366 (own_m p0) (own_r p2 (own_m p0)) T366.heap n0 Zk366 Fa366 Fc366 hc52_272) (by decide) (by decide) E366 (g := (mkF m 105 #[iv p0, iv p1, iv p2, iv p3, iv p0, rv b268, iv (own_m p0), iv ((own_r p1 (own_m p0))), iv ((own_r p2 (own_m p0))), rv b362, .unset, .unset, .unset, .unset, .unset, .unset, .unset, .unset, .unset] [(.ref b366)])) rfl (by rw [hml]; rfl) (argsL := []) (rest := []) (lenOf pd__Ljava_util_OptionalDouble_ rfl) rfl (hb hby at_105) rfl e366 (by decide : 5 + 1 ≤ _) (by decide : 28 + 2 ≤ _)
        obtain ⟨b371, rfl, N371q, gb371, K371, E371, I371, V371⟩ := hQ371
        have N371 := Fr.app N366 N371q
        have e371 : T371.heap = T371.heap := rfl
        have f372 := (f367.keep K366)
        have ne_aE_b371 : aE ≠ b371 := Nat.ne_of_lt (Nat.lt_of_lt_of_le f372.lt gb371)
        have f373 := (f368.keep K366)
        have ne_b267_b371 : b267 ≠ b371 := Nat.ne_of_lt (Nat.lt_of_lt_of_le f373.lt gb371)
        have f374 := (f369.keep K366)
        have ne_b268_b371 : b268 ≠ b371 := Nat.ne_of_lt (Nat.lt_of_lt_of_le f374.lt gb371)
        have f375 := (f370.keep K366)
        have ne_b359_b371 : b359 ≠ b371 := Nat.ne_of_lt (Nat.lt_of_lt_of_le f375.lt gb371)
        have f376 := (E362.keep K366)
        have ne_b362_b371 : b362 ≠ b371 := Nat.ne_of_lt (Nat.lt_of_lt_of_le f376.lt gb371)
        have ne_b366_b371 : b366 ≠ b371 := Nat.ne_of_lt (Nat.lt_of_lt_of_le E366.lt gb371)
        have ge_b371 : n0 ≤ b371 := Nat.le_trans Zk366 gb371
        have sz_b371 : h0.size ≤ b371 := Nat.le_trans Kk366.1 gb371
        have Zk371 : n0 ≤ T371.heap.size := Nat.le_trans Zk366 K371.1
        have Kk371 : Keep h0 T371.heap [] := Kk366.trans K371 all0
        have f377 := ((I362.keep K366 nin0).keep K371 nin0)
        have f379 := (f376.keep K371)
        obtain ⟨_, T378, Lc378, X378, hQ378, st378⟩ := own_virtual (W := 0) (y := mN3) (z := mN3) X371 hx hZ hown (hw _ (own_w 44 rfl)) (hw _ (own_w 45 rfl)) (notFace_of_selects (args := #[]) (mvT hZ (hw _ (own_w 47 rfl)))) (hw _ (own_w 47 rfl)) (hw _ (own_w 46 rfl)) (hw _ (own_w 48 rfl)) (hw _ (own_w 41 rfl)) (by decide) (rmIs1 l Z av0 hw [] b362 T371.heap n0 Zk371 f377) (by decide) (by decide) f379 (g := (mkF m 112 #[iv p0, iv p1, iv p2, iv p3, iv p0, rv b268, iv (own_m p0), iv ((own_r p1 (own_m p0))), iv ((own_r p2 (own_m p0))), rv b362, rv b371, .unset, .unset, .unset, .unset, .unset, .unset, .unset, .unset] [(.ref b362)])) rfl (by rw [hml]; rfl) (argsL := []) (rest := []) (lenOf pd__Z rfl) rfl (hb hby at_112) rfl e371 (by decide : 6 + 0 ≤ _) (by decide : 30 + 0 ≤ _)
        obtain ⟨rfl, N378q, hh378⟩ := hQ378
        have N378 := Fr.app N371 N378q
        have e378 : T378.heap = T371.heap := hh378
        obtain ⟨_, T380, Lc380, X380, hQ380, st380⟩ := own_virtual (W := 0) (y := mN3) (z := mN3) X378 hx hZ hown (hw _ (own_w 44 rfl)) (hw _ (own_w 45 rfl)) (notFace_of_selects (args := #[]) (mvT hZ (hw _ (own_w 47 rfl)))) (hw _ (own_w 47 rfl)) (hw _ (own_w 46 rfl)) (hw _ (own_w 48 rfl)) (hw _ (own_w 41 rfl)) (by decide) (rmIs1 l Z av0 hw [] b371 T371.heap n0 Zk371 I371) (by decide) (by decide) E371 (g := (mkF m 120 #[iv p0, iv p1, iv p2, iv p3, iv p0, rv b268, iv (own_m p0), iv ((own_r p1 (own_m p0))), iv ((own_r p2 (own_m p0))), rv b362, rv b371, .unset, .unset, .unset, .unset, .unset, .unset, .unset, .unset] [(.ref b371)])) rfl (by rw [hml]; rfl) (argsL := []) (rest := []) (lenOf pd__Z rfl) rfl (hb hby at_120) rfl e378 (by decide : 6 + 0 ≤ _) (by decide : 30 + 0 ≤ _)
        obtain ⟨rfl, N380q, hh380⟩ := hQ380
        have N380 := Fr.app N378 N380q
        have e380 : T380.heap = T371.heap := hh380
        have f381 := ((V362.keep K366 nin0).keep K371 nin0)
        obtain ⟨_, T382, Lc382, X382, hQ382, st382⟩ := own_virtual (W := 0) (y := mN4) (z := mN4) X380 hx hZ hown (hw _ (own_w 64 rfl)) (hw _ (own_w 65 rfl)) (notFace_of_selects (args := #[]) (mvT hZ (hw _ (own_w 67 rfl)))) (hw _ (own_w 67 rfl)) (hw _ (own_w 66 rfl)) (hw _ (own_w 68 rfl)) (hw _ (own_w 41 rfl)) (by decide) (rmGet l Z av0 hw [] b362 (FP.ddiv (FP.i2d (own_r p1 (own_m p0))) (FP.i2d (own_m p0))) T371.heap n0 Zk371 f377 f381) (by decide) (by decide) f379 (g := (mkF m 130 #[iv p0, iv p1, iv p2, iv p3, iv p0, rv b268, iv (own_m p0), iv ((own_r p1 (own_m p0))), iv ((own_r p2 (own_m p0))), rv b362, rv b371, .unset, .unset, .unset, .unset, .unset, .unset, .unset, .unset] [(.ref b362)])) rfl (by rw [hml]; rfl) (argsL := []) (rest := []) (lenOf pd__D rfl) rfl (hb hby at_130) rfl e380 (by decide : 6 + 0 ≤ _) (by decide : 30 + 0 ≤ _)
        obtain ⟨rfl, N382q, hh382⟩ := hQ382
        have N382 := Fr.app N380 N382q
        have e382 : T382.heap = T371.heap := hh382
        obtain ⟨_, T383, Lc383, X383, hQ383, st383⟩ := own_virtual (W := 0) (y := mN4) (z := mN4) X382 hx hZ hown (hw _ (own_w 64 rfl)) (hw _ (own_w 65 rfl)) (notFace_of_selects (args := #[]) (mvT hZ (hw _ (own_w 67 rfl)))) (hw _ (own_w 67 rfl)) (hw _ (own_w 66 rfl)) (hw _ (own_w 68 rfl)) (hw _ (own_w 41 rfl)) (by decide) (rmGet l Z av0 hw [] b371 (FP.ddiv (FP.i2d (own_r p2 (own_m p0))) (FP.i2d (own_m p0))) T371.heap n0 Zk371 I371 V371) (by decide) (by decide) E371 (g := (mkF m 137 #[iv p0, iv p1, iv p2, iv p3, iv p0, rv b268, iv (own_m p0), iv ((own_r p1 (own_m p0))), iv ((own_r p2 (own_m p0))), rv b362, rv b371, .val (.double (FP.ddiv (FP.i2d (own_r p1 (own_m p0))) (FP.i2d (own_m p0)))), .second, .unset, .unset, .unset, .unset, .unset, .unset] [(.ref b371)])) rfl (by rw [hml]; rfl) (argsL := []) (rest := []) (lenOf pd__D rfl) rfl (hb hby at_137) rfl e382 (by decide : 6 + 0 ≤ _) (by decide : 30 + 0 ≤ _)
        obtain ⟨rfl, N383q, hh383⟩ := hQ383
        have N383 := Fr.app N382 N383q
        have e383 : T383.heap = T371.heap := hh383
        have S384 : ∀ tz, oS p e below T383 (mkF m 142 #[iv p0, iv p1, iv p2, iv p3, iv p0, rv b268, iv (own_m p0), iv ((own_r p1 (own_m p0))), iv ((own_r p2 (own_m p0))), rv b362, rv b371, .val (.double (FP.ddiv (FP.i2d (own_r p1 (own_m p0))) (FP.i2d (own_m p0)))), .second, .val (.double (FP.ddiv (FP.i2d (own_r p2 (own_m p0))) (FP.i2d (own_m p0)))), .second, .unset, .unset, .unset, .unset] []) tz → oS p e below s₁ (mkF m 0 #[iv p0, iv p1, iv p2, iv p3, .unset, .unset, .unset, .unset, .unset, .unset, .unset, .unset, .unset, .unset, .unset, .unset, .unset, .unset, .unset] []) tz := fun tz kz => S271 tz (by
          show oS p e below T270 (mkF m 52 #[iv p0, iv p1, iv p2, iv p3, iv p0, rv b268, iv (own_m p0), .unset, .unset, .unset, .unset, .unset, .unset, .unset, .unset, .unset, .unset, .unset, .unset] [(.int (own_m p0))]) _
          refine XS.ifYes X270.here hx rfl (pc0 := 52) (pc' := 58) rfl (hb hby at_52) rfl (XT.i0_ne_t hc52_272) (by decide) (by decide) ?_
          refine XS.iloadN X270.here hx rfl (hb hby at_58) rfl ?_
          refine X270.ldcI hx hown (mvT hZ (hw _ (own_w 51 rfl))) rfl (hb hby at_59) ?_
          refine XS.iand X270.here hx rfl (hb hby at_61) rfl ?_
          show oS p e below T270 (mkF m 62 #[iv p0, iv p1, iv p2, iv p3, iv p0, rv b268, iv (own_m p0), .unset, .unset, .unset, .unset, .unset, .unset, .unset, .unset, .unset, .unset, .unset, .unset] [(.int (p1 &&& (2147483647 : Int32)))]) _
          skip
          show oS p e below T270 (mkF m 62 #[iv p0, iv p1, iv p2, iv p3, iv p0, rv b268, iv (own_m p0), .unset, .unset, .unset, .unset, .unset, .unset, .unset, .unset, .unset, .unset, .unset, .unset] [(.int (own_m p1))]) _
          refine XT.i2l X270.here hx rfl (hb hby at_62) rfl ?_
          show oS p e below T270 (mkF m 63 #[iv p0, iv p1, iv p2, iv p3, iv p0, rv b268, iv (own_m p0), .unset, .unset, .unset, .unset, .unset, .unset, .unset, .unset, .unset, .unset, .unset, .unset] [(.long ((own_m p1)).toInt64)]) _
          refine XS.iload X270.here hx rfl (hb hby at_63) rfl ?_
          refine XT.i2l X270.here hx rfl (hb hby at_65) rfl ?_
          refine XT.lconstV X270.here hx rfl (1 : Int64) (hb hby at_66) (by decide) ?_
          refine XT.ladd X270.here hx rfl (hb hby at_67) rfl ?_
          refine XT.lrem X270.here hx rfl (hb hby at_68) rfl (own_lnz (own_mpos hc52_272)) ?_
          refine XT.l2i X270.here hx rfl (hb hby at_69) rfl ?_
          show oS p e below T270 (mkF m 70 #[iv p0, iv p1, iv p2, iv p3, iv p0, rv b268, iv (own_m p0), .unset, .unset, .unset, .unset, .unset, .unset, .unset, .unset, .unset, .unset, .unset, .unset] [(.int ((((own_m p1)).toInt64 - (((own_m p1)).toInt64 / (((own_m p0)).toInt64 + (1 : Int64))) * (((own_m p0)).toInt64 + (1 : Int64)))).toInt32)]) _
          skip
          show oS p e below T270 (mkF m 70 #[iv p0, iv p1, iv p2, iv p3, iv p0, rv b268, iv (own_m p0), .unset, .unset, .unset, .unset, .unset, .unset, .unset, .unset, .unset, .unset, .unset, .unset] [(.int (own_r p1 (own_m p0)))]) _
          refine XS.istore X270.here hx rfl (hb hby at_70) rfl (l' := #[iv p0, iv p1, iv p2, iv p3, iv p0, rv b268, iv (own_m p0), iv ((own_r p1 (own_m p0))), .unset, .unset, .unset, .unset, .unset, .unset, .unset, .unset, .unset, .unset, .unset]) rfl ?_
          refine XS.iloadN X270.here hx rfl (hb hby at_72) rfl ?_
          refine X270.ldcI hx hown (mvT hZ (hw _ (own_w 51 rfl))) rfl (hb hby at_73) ?_
          show oS p e below T270 (mkF m 75 #[iv p0, iv p1, iv p2, iv p3, iv p0, rv b268, iv (own_m p0), iv ((own_r p1 (own_m p0))), .unset, .unset, .unset, .unset, .unset, .unset, .unset, .unset, .unset, .unset, .unset] [(.int 2147483647), (.int p2)]) _
          refine XS.iand X270.here hx rfl (hb hby at_75) rfl ?_
          show oS p e below T270 (mkF m 76 #[iv p0, iv p1, iv p2, iv p3, iv p0, rv b268, iv (own_m p0), iv ((own_r p1 (own_m p0))), .unset, .unset, .unset, .unset, .unset, .unset, .unset, .unset, .unset, .unset, .unset] [(.int (p2 &&& (2147483647 : Int32)))]) _
          skip
          show oS p e below T270 (mkF m 76 #[iv p0, iv p1, iv p2, iv p3, iv p0, rv b268, iv (own_m p0), iv ((own_r p1 (own_m p0))), .unset, .unset, .unset, .unset, .unset, .unset, .unset, .unset, .unset, .unset, .unset] [(.int (own_m p2))]) _
          refine XT.i2l X270.here hx rfl (hb hby at_76) rfl ?_
          refine XS.iload X270.here hx rfl (hb hby at_77) rfl ?_
          refine XT.i2l X270.here hx rfl (hb hby at_79) rfl ?_
          refine XT.lconstV X270.here hx rfl (1 : Int64) (hb hby at_80) (by decide) ?_
          refine XT.ladd X270.here hx rfl (hb hby at_81) rfl ?_
          refine XT.lrem X270.here hx rfl (hb hby at_82) rfl (own_lnz (own_mpos hc52_272)) ?_
          refine XT.l2i X270.here hx rfl (hb hby at_83) rfl ?_
          show oS p e below T270 (mkF m 84 #[iv p0, iv p1, iv p2, iv p3, iv p0, rv b268, iv (own_m p0), iv ((own_r p1 (own_m p0))), .unset, .unset, .unset, .unset, .unset, .unset, .unset, .unset, .unset, .unset, .unset] [(.int ((((own_m p2)).toInt64 - (((own_m p2)).toInt64 / (((own_m p0)).toInt64 + (1 : Int64))) * (((own_m p0)).toInt64 + (1 : Int64)))).toInt32)]) _
          skip
          show oS p e below T270 (mkF m 84 #[iv p0, iv p1, iv p2, iv p3, iv p0, rv b268, iv (own_m p0), iv ((own_r p1 (own_m p0))), .unset, .unset, .unset, .unset, .unset, .unset, .unset, .unset, .unset, .unset, .unset] [(.int (own_r p2 (own_m p0)))]) _
          refine XS.istore X270.here hx rfl (hb hby at_84) rfl (l' := #[iv p0, iv p1, iv p2, iv p3, iv p0, rv b268, iv (own_m p0), iv ((own_r p1 (own_m p0))), iv ((own_r p2 (own_m p0))), .unset, .unset, .unset, .unset, .unset, .unset, .unset, .unset, .unset, .unset]) rfl ?_
          refine XS.iload X270.here hx rfl (hb hby at_86) rfl ?_
          refine XS.iload X270.here hx rfl (hb hby at_88) rfl ?_
          refine st359 _ ?_
          refine st362 _ ?_
          refine XS.astore X362.here hx rfl (hb hby at_96) rfl rfl (l' := #[iv p0, iv p1, iv p2, iv p3, iv p0, rv b268, iv (own_m p0), iv ((own_r p1 (own_m p0))), iv ((own_r p2 (own_m p0))), rv b362, .unset, .unset, .unset, .unset, .unset, .unset, .unset, .unset, .unset]) rfl ?_
          refine XS.iload X362.here hx rfl (hb hby at_98) rfl ?_
          refine XS.iload X362.here hx rfl (hb hby at_100) rfl ?_
          refine st366 _ ?_
          refine st371 _ ?_
          show oS p e below T371 (mkF m 108 #[iv p0, iv p1, iv p2, iv p3, iv p0, rv b268, iv (own_m p0), iv ((own_r p1 (own_m p0))), iv ((own_r p2 (own_m p0))), rv b362, .unset, .unset, .unset, .unset, .unset, .unset, .unset, .unset, .unset] [(.ref b371)]) _
          refine XS.astore X371.here hx rfl (hb hby at_108) rfl rfl (l' := #[iv p0, iv p1, iv p2, iv p3, iv p0, rv b268, iv (own_m p0), iv ((own_r p1 (own_m p0))), iv ((own_r p2 (own_m p0))), rv b362, rv b371, .unset, .unset, .unset, .unset, .unset, .unset, .unset, .unset]) rfl ?_
          refine XS.aload X371.here hx rfl (hb hby at_110) rfl rfl ?_
          refine st378 _ ?_
          refine XS.ifNo X378.here hx rfl (hb hby at_115) rfl (XT.i0_eq_f (by decide)) ?_
          refine XS.aload X378.here hx rfl (hb hby at_118) rfl rfl ?_
          refine st380 _ ?_
          refine XS.ifYes X380.here hx rfl (pc0 := 123) (pc' := 128) rfl (hb hby at_123) rfl (XT.i0_ne_t (by decide)) (by decide) (by decide) ?_
          refine XS.aload X380.here hx rfl (hb hby at_128) rfl rfl ?_
          refine st382 _ ?_
          refine XS.dstore X382.here hx rfl (hb hby at_133) rfl (l' := #[iv p0, iv p1, iv p2, iv p3, iv p0, rv b268, iv (own_m p0), iv ((own_r p1 (own_m p0))), iv ((own_r p2 (own_m p0))), rv b362, rv b371, .val (.double (FP.ddiv (FP.i2d (own_r p1 (own_m p0))) (FP.i2d (own_m p0)))), .second, .unset, .unset, .unset, .unset, .unset, .unset]) rfl ?_
          show oS p e below T382 (mkF m 135 #[iv p0, iv p1, iv p2, iv p3, iv p0, rv b268, iv (own_m p0), iv ((own_r p1 (own_m p0))), iv ((own_r p2 (own_m p0))), rv b362, rv b371, .val (.double (FP.ddiv (FP.i2d (own_r p1 (own_m p0))) (FP.i2d (own_m p0)))), .second, .unset, .unset, .unset, .unset, .unset, .unset] []) _
          refine XS.aload X382.here hx rfl (hb hby at_135) rfl rfl ?_
          refine st383 _ ?_
          refine XS.dstore X383.here hx rfl (hb hby at_140) rfl (l' := #[iv p0, iv p1, iv p2, iv p3, iv p0, rv b268, iv (own_m p0), iv ((own_r p1 (own_m p0))), iv ((own_r p2 (own_m p0))), rv b362, rv b371, .val (.double (FP.ddiv (FP.i2d (own_r p1 (own_m p0))) (FP.i2d (own_m p0)))), .second, .val (.double (FP.ddiv (FP.i2d (own_r p2 (own_m p0))) (FP.i2d (own_m p0)))), .second, .unset, .unset, .unset, .unset]) rfl ?_
          exact kz)
        have M385 : ∀ tz, oS p e below T383 (mkF m 158 #[iv p0, iv p1, iv p2, iv p3, iv p0, rv b268, iv (own_m p0), iv ((own_r p1 (own_m p0))), iv ((own_r p2 (own_m p0))), rv b362, rv b371, .val (.double (FP.ddiv (FP.i2d (own_r p1 (own_m p0))) (FP.i2d (own_m p0)))), .second, .val (.double (FP.ddiv (FP.i2d (own_r p2 (own_m p0))) (FP.i2d (own_m p0)))), .second, .unset, .unset, .unset, .unset] []) tz → oS p e below T383 (mkF m 142 #[iv p0, iv p1, iv p2, iv p3, iv p0, rv b268, iv (own_m p0), iv ((own_r p1 (own_m p0))), iv ((own_r p2 (own_m p0))), rv b362, rv b371, .val (.double (FP.ddiv (FP.i2d (own_r p1 (own_m p0))) (FP.i2d (own_m p0)))), .second, .val (.double (FP.ddiv (FP.i2d (own_r p2 (own_m p0))) (FP.i2d (own_m p0)))), .second, .unset, .unset, .unset, .unset] []) tz := by
          intro tz kz
          have S386 : ∀ tz, oS p e below T383 (mkF m 158 #[iv p0, iv p1, iv p2, iv p3, iv p0, rv b268, iv (own_m p0), iv ((own_r p1 (own_m p0))), iv ((own_r p2 (own_m p0))), rv b362, rv b371, .val (.double (FP.ddiv (FP.i2d (own_r p1 (own_m p0))) (FP.i2d (own_m p0)))), .second, .val (.double (FP.ddiv (FP.i2d (own_r p2 (own_m p0))) (FP.i2d (own_m p0)))), .second, .unset, .unset, .unset, .unset] []) tz → oS p e below T383 (mkF m 142 #[iv p0, iv p1, iv p2, iv p3, iv p0, rv b268, iv (own_m p0), iv ((own_r p1 (own_m p0))), iv ((own_r p2 (own_m p0))), rv b362, rv b371, .val (.double (FP.ddiv (FP.i2d (own_r p1 (own_m p0))) (FP.i2d (own_m p0)))), .second, .val (.double (FP.ddiv (FP.i2d (own_r p2 (own_m p0))) (FP.i2d (own_m p0)))), .second, .unset, .unset, .unset, .unset] []) tz := fun tz kz => id (by
            show oS p e below T383 (mkF m 142 #[iv p0, iv p1, iv p2, iv p3, iv p0, rv b268, iv (own_m p0), iv ((own_r p1 (own_m p0))), iv ((own_r p2 (own_m p0))), rv b362, rv b371, .val (.double (FP.ddiv (FP.i2d (own_r p1 (own_m p0))) (FP.i2d (own_m p0)))), .second, .val (.double (FP.ddiv (FP.i2d (own_r p2 (own_m p0))) (FP.i2d (own_m p0)))), .second, .unset, .unset, .unset, .unset] []) _
            refine XS.dload X383.here hx rfl (hb hby at_142) rfl ?_
            refine XS.dconst0 X383.here hx rfl (hb hby at_144) rfl ?_
            refine XS.dcmpS X383.here hx rfl (hb hby at_145) rfl rfl ?_
            refine XS.ifNo X383.here hx rfl (hb hby at_146) rfl (XT.i0_lt_f (own_t0 (own_rv p1 (own_mpos hc52_272)) (own_mpos hc52_272))) ?_
            refine XS.dload X383.here hx rfl (hb hby at_149) rfl ?_
            refine XS.dconst1 X383.here hx rfl (hb hby at_151) rfl ?_
            refine XS.dcmpS X383.here hx rfl (hb hby at_152) rfl rfl ?_
            show oS p e below T383 (mkF m 153 #[iv p0, iv p1, iv p2, iv p3, iv p0, rv b268, iv (own_m p0), iv ((own_r p1 (own_m p0))), iv ((own_r p2 (own_m p0))), rv b362, rv b371, .val (.double (FP.ddiv (FP.i2d (own_r p1 (own_m p0))) (FP.i2d (own_m p0)))), .second, .val (.double (FP.ddiv (FP.i2d (own_r p2 (own_m p0))) (FP.i2d (own_m p0)))), .second, .unset, .unset, .unset, .unset] [(.int (cmpValue (FP.dcmp (FP.ddiv (FP.i2d (own_r p1 (own_m p0))) (FP.i2d (own_m p0))) FP.dconst1) .g))]) _
            refine XS.ifYes X383.here hx rfl (pc0 := 153) (pc' := 158) rfl (hb hby at_153) rfl (XT.i0_le_t (own_t1 (own_rv p1 (own_mpos hc52_272)) (own_mpos hc52_272))) (by decide) (by decide) ?_
            exact kz)
          exact S386 tz kz
        have S387 : ∀ tz, oS p e below T383 (mkF m 158 #[iv p0, iv p1, iv p2, iv p3, iv p0, rv b268, iv (own_m p0), iv ((own_r p1 (own_m p0))), iv ((own_r p2 (own_m p0))), rv b362, rv b371, .val (.double (FP.ddiv (FP.i2d (own_r p1 (own_m p0))) (FP.i2d (own_m p0)))), .second, .val (.double (FP.ddiv (FP.i2d (own_r p2 (own_m p0))) (FP.i2d (own_m p0)))), .second, .unset, .unset, .unset, .unset] []) tz → oS p e below s₁ (mkF m 0 #[iv p0, iv p1, iv p2, iv p3, .unset, .unset, .unset, .unset, .unset, .unset, .unset, .unset, .unset, .unset, .unset, .unset, .unset, .unset, .unset] []) tz := fun tz kz => S384 tz (by
          show oS p e below T383 (mkF m 142 #[iv p0, iv p1, iv p2, iv p3, iv p0, rv b268, iv (own_m p0), iv ((own_r p1 (own_m p0))), iv ((own_r p2 (own_m p0))), rv b362, rv b371, .val (.double (FP.ddiv (FP.i2d (own_r p1 (own_m p0))) (FP.i2d (own_m p0)))), .second, .val (.double (FP.ddiv (FP.i2d (own_r p2 (own_m p0))) (FP.i2d (own_m p0)))), .second, .unset, .unset, .unset, .unset] []) _
          refine M385 _ ?_
          show oS p e below T383 (mkF m 158 #[iv p0, iv p1, iv p2, iv p3, iv p0, rv b268, iv (own_m p0), iv ((own_r p1 (own_m p0))), iv ((own_r p2 (own_m p0))), rv b362, rv b371, .val (.double (FP.ddiv (FP.i2d (own_r p1 (own_m p0))) (FP.i2d (own_m p0)))), .second, .val (.double (FP.ddiv (FP.i2d (own_r p2 (own_m p0))) (FP.i2d (own_m p0)))), .second, .unset, .unset, .unset, .unset] []) _
          exact kz)
        have M388 : ∀ tz, oS p e below T383 (mkF m 185 #[iv p0, iv p1, iv p2, iv p3, iv p0, rv b268, iv (own_m p0), iv ((own_r p1 (own_m p0))), iv ((own_r p2 (own_m p0))), rv b362, rv b371, .val (.double (FP.ddiv (FP.i2d (own_r p1 (own_m p0))) (FP.i2d (own_m p0)))), .second, .val (.double (FP.ddiv (FP.i2d (own_r p2 (own_m p0))) (FP.i2d (own_m p0)))), .second, .unset, .unset, .unset, .unset] []) tz → oS p e below T383 (mkF m 158 #[iv p0, iv p1, iv p2, iv p3, iv p0, rv b268, iv (own_m p0), iv ((own_r p1 (own_m p0))), iv ((own_r p2 (own_m p0))), rv b362, rv b371, .val (.double (FP.ddiv (FP.i2d (own_r p1 (own_m p0))) (FP.i2d (own_m p0)))), .second, .val (.double (FP.ddiv (FP.i2d (own_r p2 (own_m p0))) (FP.i2d (own_m p0)))), .second, .unset, .unset, .unset, .unset] []) tz := by
          intro tz kz
          by_cases hf158_389 : (own_r p1 (own_m p0)) = (0 : Int32)
          · have S390 : ∀ tz, oS p e below T383 (mkF m 185 #[iv p0, iv p1, iv p2, iv p3, iv p0, rv b268, iv (own_m p0), iv ((own_r p1 (own_m p0))), iv ((own_r p2 (own_m p0))), rv b362, rv b371, .val (.double (FP.ddiv (FP.i2d (own_r p1 (own_m p0))) (FP.i2d (own_m p0)))), .second, .val (.double (FP.ddiv (FP.i2d (own_r p2 (own_m p0))) (FP.i2d (own_m p0)))), .second, .unset, .unset, .unset, .unset] []) tz → oS p e below T383 (mkF m 158 #[iv p0, iv p1, iv p2, iv p3, iv p0, rv b268, iv (own_m p0), iv ((own_r p1 (own_m p0))), iv ((own_r p2 (own_m p0))), rv b362, rv b371, .val (.double (FP.ddiv (FP.i2d (own_r p1 (own_m p0))) (FP.i2d (own_m p0)))), .second, .val (.double (FP.ddiv (FP.i2d (own_r p2 (own_m p0))) (FP.i2d (own_m p0)))), .second, .unset, .unset, .unset, .unset] []) tz := fun tz kz => id (by
              show oS p e below T383 (mkF m 158 #[iv p0, iv p1, iv p2, iv p3, iv p0, rv b268, iv (own_m p0), iv ((own_r p1 (own_m p0))), iv ((own_r p2 (own_m p0))), rv b362, rv b371, .val (.double (FP.ddiv (FP.i2d (own_r p1 (own_m p0))) (FP.i2d (own_m p0)))), .second, .val (.double (FP.ddiv (FP.i2d (own_r p2 (own_m p0))) (FP.i2d (own_m p0)))), .second, .unset, .unset, .unset, .unset] []) _
              refine XS.dload X383.here hx rfl (hb hby at_158) rfl ?_
              refine XS.dconst0 X383.here hx rfl (hb hby at_160) rfl ?_
              refine XS.dcmpS X383.here hx rfl (hb hby at_161) rfl rfl ?_
              refine XS.ifNo X383.here hx rfl (hb hby at_162) rfl (XT.i0_ne_f ((own_z0 (own_rv p1 (own_mpos hc52_272)) (own_mpos hc52_272)).mpr hf158_389)) ?_
              refine XT.iconstV X383.here hx rfl (1 : Int32) (hb hby at_165) (by decide) ?_
              refine XS.goto X383.here hx rfl (pc0 := 166) (pc' := 170) rfl (hb hby at_166) (by decide) (by decide) ?_
              show oS p e below T383 (mkF m 170 #[iv p0, iv p1, iv p2, iv p3, iv p0, rv b268, iv (own_m p0), iv ((own_r p1 (own_m p0))), iv ((own_r p2 (own_m p0))), rv b362, rv b371, .val (.double (FP.ddiv (FP.i2d (own_r p1 (own_m p0))) (FP.i2d (own_m p0)))), .second, .val (.double (FP.ddiv (FP.i2d (own_r p2 (own_m p0))) (FP.i2d (own_m p0)))), .second, .unset, .unset, .unset, .unset] [(.int 1)]) _
              refine XS.iload X383.here hx rfl (hb hby at_170) rfl ?_
              refine XS.ifNo X383.here hx rfl (hb hby at_172) rfl (XT.i0_ne_f hf158_389) ?_
              refine XT.iconstV X383.here hx rfl (1 : Int32) (hb hby at_175) (by decide) ?_
              refine XS.goto X383.here hx rfl (pc0 := 176) (pc' := 180) rfl (hb hby at_176) (by decide) (by decide) ?_
              refine XS.icmpYes X383.here hx rfl (pc0 := 180) (pc' := 185) rfl (hb hby at_180) rfl (XT.ii_eq_t (by decide)) (by decide) (by decide) ?_
              exact kz)
            exact S390 tz kz
          · have S391 : ∀ tz, oS p e below T383 (mkF m 185 #[iv p0, iv p1, iv p2, iv p3, iv p0, rv b268, iv (own_m p0), iv ((own_r p1 (own_m p0))), iv ((own_r p2 (own_m p0))), rv b362, rv b371, .val (.double (FP.ddiv (FP.i2d (own_r p1 (own_m p0))) (FP.i2d (own_m p0)))), .second, .val (.double (FP.ddiv (FP.i2d (own_r p2 (own_m p0))) (FP.i2d (own_m p0)))), .second, .unset, .unset, .unset, .unset] []) tz → oS p e below T383 (mkF m 158 #[iv p0, iv p1, iv p2, iv p3, iv p0, rv b268, iv (own_m p0), iv ((own_r p1 (own_m p0))), iv ((own_r p2 (own_m p0))), rv b362, rv b371, .val (.double (FP.ddiv (FP.i2d (own_r p1 (own_m p0))) (FP.i2d (own_m p0)))), .second, .val (.double (FP.ddiv (FP.i2d (own_r p2 (own_m p0))) (FP.i2d (own_m p0)))), .second, .unset, .unset, .unset, .unset] []) tz := fun tz kz => id (by
              show oS p e below T383 (mkF m 158 #[iv p0, iv p1, iv p2, iv p3, iv p0, rv b268, iv (own_m p0), iv ((own_r p1 (own_m p0))), iv ((own_r p2 (own_m p0))), rv b362, rv b371, .val (.double (FP.ddiv (FP.i2d (own_r p1 (own_m p0))) (FP.i2d (own_m p0)))), .second, .val (.double (FP.ddiv (FP.i2d (own_r p2 (own_m p0))) (FP.i2d (own_m p0)))), .second, .unset, .unset, .unset, .unset] []) _
              refine XS.dload X383.here hx rfl (hb hby at_158) rfl ?_
              refine XS.dconst0 X383.here hx rfl (hb hby at_160) rfl ?_
              refine XS.dcmpS X383.here hx rfl (hb hby at_161) rfl rfl ?_
              refine XS.ifYes X383.here hx rfl (pc0 := 162) (pc' := 169) rfl (hb hby at_162) rfl (XT.i0_ne_t (fun q => hf158_389 ((own_z0 (own_rv p1 (own_mpos hc52_272)) (own_mpos hc52_272)).mp q))) (by decide) (by decide) ?_
              refine XT.iconstV X383.here hx rfl (0 : Int32) (hb hby at_169) (by decide) ?_
              refine XS.iload X383.here hx rfl (hb hby at_170) rfl ?_
              show oS p e below T383 (mkF m 172 #[iv p0, iv p1, iv p2, iv p3, iv p0, rv b268, iv (own_m p0), iv ((own_r p1 (own_m p0))), iv ((own_r p2 (own_m p0))), rv b362, rv b371, .val (.double (FP.ddiv (FP.i2d (own_r p1 (own_m p0))) (FP.i2d (own_m p0)))), .second, .val (.double (FP.ddiv (FP.i2d (own_r p2 (own_m p0))) (FP.i2d (own_m p0)))), .second, .unset, .unset, .unset, .unset] [(.int (own_r p1 (own_m p0))), (.int 0)]) _
              refine XS.ifYes X383.here hx rfl (pc0 := 172) (pc' := 179) rfl (hb hby at_172) rfl (XT.i0_ne_t hf158_389) (by decide) (by decide) ?_
              refine XT.iconstV X383.here hx rfl (0 : Int32) (hb hby at_179) (by decide) ?_
              refine XS.icmpYes X383.here hx rfl (pc0 := 180) (pc' := 185) rfl (hb hby at_180) rfl (XT.ii_eq_t (by decide)) (by decide) (by decide) ?_
              exact kz)
            exact S391 tz kz
        have S392 : ∀ tz, oS p e below T383 (mkF m 185 #[iv p0, iv p1, iv p2, iv p3, iv p0, rv b268, iv (own_m p0), iv ((own_r p1 (own_m p0))), iv ((own_r p2 (own_m p0))), rv b362, rv b371, .val (.double (FP.ddiv (FP.i2d (own_r p1 (own_m p0))) (FP.i2d (own_m p0)))), .second, .val (.double (FP.ddiv (FP.i2d (own_r p2 (own_m p0))) (FP.i2d (own_m p0)))), .second, .unset, .unset, .unset, .unset] []) tz → oS p e below s₁ (mkF m 0 #[iv p0, iv p1, iv p2, iv p3, .unset, .unset, .unset, .unset, .unset, .unset, .unset, .unset, .unset, .unset, .unset, .unset, .unset, .unset, .unset] []) tz := fun tz kz => S387 tz (by
          show oS p e below T383 (mkF m 158 #[iv p0, iv p1, iv p2, iv p3, iv p0, rv b268, iv (own_m p0), iv ((own_r p1 (own_m p0))), iv ((own_r p2 (own_m p0))), rv b362, rv b371, .val (.double (FP.ddiv (FP.i2d (own_r p1 (own_m p0))) (FP.i2d (own_m p0)))), .second, .val (.double (FP.ddiv (FP.i2d (own_r p2 (own_m p0))) (FP.i2d (own_m p0)))), .second, .unset, .unset, .unset, .unset] []) _
          refine M388 _ ?_
          show oS p e below T383 (mkF m 185 #[iv p0, iv p1, iv p2, iv p3, iv p0, rv b268, iv (own_m p0), iv ((own_r p1 (own_m p0))), iv ((own_r p2 (own_m p0))), rv b362, rv b371, .val (.double (FP.ddiv (FP.i2d (own_r p1 (own_m p0))) (FP.i2d (own_m p0)))), .second, .val (.double (FP.ddiv (FP.i2d (own_r p2 (own_m p0))) (FP.i2d (own_m p0)))), .second, .unset, .unset, .unset, .unset] []) _
          exact kz)
        have M393 : ∀ tz, oS p e below T383 (mkF m 214 #[iv p0, iv p1, iv p2, iv p3, iv p0, rv b268, iv (own_m p0), iv ((own_r p1 (own_m p0))), iv ((own_r p2 (own_m p0))), rv b362, rv b371, .val (.double (FP.ddiv (FP.i2d (own_r p1 (own_m p0))) (FP.i2d (own_m p0)))), .second, .val (.double (FP.ddiv (FP.i2d (own_r p2 (own_m p0))) (FP.i2d (own_m p0)))), .second, .unset, .unset, .unset, .unset] []) tz → oS p e below T383 (mkF m 185 #[iv p0, iv p1, iv p2, iv p3, iv p0, rv b268, iv (own_m p0), iv ((own_r p1 (own_m p0))), iv ((own_r p2 (own_m p0))), rv b362, rv b371, .val (.double (FP.ddiv (FP.i2d (own_r p1 (own_m p0))) (FP.i2d (own_m p0)))), .second, .val (.double (FP.ddiv (FP.i2d (own_r p2 (own_m p0))) (FP.i2d (own_m p0)))), .second, .unset, .unset, .unset, .unset] []) tz := by
          intro tz kz
          by_cases hf185_394 : (own_r p1 (own_m p0)) = (own_m p0)
          · have S395 : ∀ tz, oS p e below T383 (mkF m 214 #[iv p0, iv p1, iv p2, iv p3, iv p0, rv b268, iv (own_m p0), iv ((own_r p1 (own_m p0))), iv ((own_r p2 (own_m p0))), rv b362, rv b371, .val (.double (FP.ddiv (FP.i2d (own_r p1 (own_m p0))) (FP.i2d (own_m p0)))), .second, .val (.double (FP.ddiv (FP.i2d (own_r p2 (own_m p0))) (FP.i2d (own_m p0)))), .second, .unset, .unset, .unset, .unset] []) tz → oS p e below T383 (mkF m 185 #[iv p0, iv p1, iv p2, iv p3, iv p0, rv b268, iv (own_m p0), iv ((own_r p1 (own_m p0))), iv ((own_r p2 (own_m p0))), rv b362, rv b371, .val (.double (FP.ddiv (FP.i2d (own_r p1 (own_m p0))) (FP.i2d (own_m p0)))), .second, .val (.double (FP.ddiv (FP.i2d (own_r p2 (own_m p0))) (FP.i2d (own_m p0)))), .second, .unset, .unset, .unset, .unset] []) tz := fun tz kz => id (by
              show oS p e below T383 (mkF m 185 #[iv p0, iv p1, iv p2, iv p3, iv p0, rv b268, iv (own_m p0), iv ((own_r p1 (own_m p0))), iv ((own_r p2 (own_m p0))), rv b362, rv b371, .val (.double (FP.ddiv (FP.i2d (own_r p1 (own_m p0))) (FP.i2d (own_m p0)))), .second, .val (.double (FP.ddiv (FP.i2d (own_r p2 (own_m p0))) (FP.i2d (own_m p0)))), .second, .unset, .unset, .unset, .unset] []) _
              refine XS.dload X383.here hx rfl (hb hby at_185) rfl ?_
              refine XS.dconst1 X383.here hx rfl (hb hby at_187) rfl ?_
              refine XS.dcmpS X383.here hx rfl (hb hby at_188) rfl rfl ?_
              refine XS.ifNo X383.here hx rfl (hb hby at_189) rfl (XT.i0_ne_f ((own_z1 (own_rv p1 (own_mpos hc52_272)) (own_mpos hc52_272)).mpr hf185_394)) ?_
              refine XT.iconstV X383.here hx rfl (1 : Int32) (hb hby at_192) (by decide) ?_
              show oS p e below T383 (mkF m 193 #[iv p0, iv p1, iv p2, iv p3, iv p0, rv b268, iv (own_m p0), iv ((own_r p1 (own_m p0))), iv ((own_r p2 (own_m p0))), rv b362, rv b371, .val (.double (FP.ddiv (FP.i2d (own_r p1 (own_m p0))) (FP.i2d (own_m p0)))), .second, .val (.double (FP.ddiv (FP.i2d (own_r p2 (own_m p0))) (FP.i2d (own_m p0)))), .second, .unset, .unset, .unset, .unset] [(.int 1)]) _
              refine XS.goto X383.here hx rfl (pc0 := 193) (pc' := 197) rfl (hb hby at_193) (by decide) (by decide) ?_
              refine XS.iload X383.here hx rfl (hb hby at_197) rfl ?_
              refine XS.iload X383.here hx rfl (hb hby at_199) rfl ?_
              refine XS.icmpNo X383.here hx rfl (hb hby at_201) rfl (XT.ii_ne_f hf185_394) ?_
              refine XT.iconstV X383.here hx rfl (1 : Int32) (hb hby at_204) (by decide) ?_
              refine XS.goto X383.here hx rfl (pc0 := 205) (pc' := 209) rfl (hb hby at_205) (by decide) (by decide) ?_
              refine XS.icmpYes X383.here hx rfl (pc0 := 209) (pc' := 214) rfl (hb hby at_209) rfl (XT.ii_eq_t (by decide)) (by decide) (by decide) ?_
              exact kz)
            exact S395 tz kz
          · have S396 : ∀ tz, oS p e below T383 (mkF m 214 #[iv p0, iv p1, iv p2, iv p3, iv p0, rv b268, iv (own_m p0), iv ((own_r p1 (own_m p0))), iv ((own_r p2 (own_m p0))), rv b362, rv b371, .val (.double (FP.ddiv (FP.i2d (own_r p1 (own_m p0))) (FP.i2d (own_m p0)))), .second, .val (.double (FP.ddiv (FP.i2d (own_r p2 (own_m p0))) (FP.i2d (own_m p0)))), .second, .unset, .unset, .unset, .unset] []) tz → oS p e below T383 (mkF m 185 #[iv p0, iv p1, iv p2, iv p3, iv p0, rv b268, iv (own_m p0), iv ((own_r p1 (own_m p0))), iv ((own_r p2 (own_m p0))), rv b362, rv b371, .val (.double (FP.ddiv (FP.i2d (own_r p1 (own_m p0))) (FP.i2d (own_m p0)))), .second, .val (.double (FP.ddiv (FP.i2d (own_r p2 (own_m p0))) (FP.i2d (own_m p0)))), .second, .unset, .unset, .unset, .unset] []) tz := fun tz kz => id (by
              show oS p e below T383 (mkF m 185 #[iv p0, iv p1, iv p2, iv p3, iv p0, rv b268, iv (own_m p0), iv ((own_r p1 (own_m p0))), iv ((own_r p2 (own_m p0))), rv b362, rv b371, .val (.double (FP.ddiv (FP.i2d (own_r p1 (own_m p0))) (FP.i2d (own_m p0)))), .second, .val (.double (FP.ddiv (FP.i2d (own_r p2 (own_m p0))) (FP.i2d (own_m p0)))), .second, .unset, .unset, .unset, .unset] []) _
              refine XS.dload X383.here hx rfl (hb hby at_185) rfl ?_
              refine XS.dconst1 X383.here hx rfl (hb hby at_187) rfl ?_
              refine XS.dcmpS X383.here hx rfl (hb hby at_188) rfl rfl ?_
              refine XS.ifYes X383.here hx rfl (pc0 := 189) (pc' := 196) rfl (hb hby at_189) rfl (XT.i0_ne_t (fun q => hf185_394 ((own_z1 (own_rv p1 (own_mpos hc52_272)) (own_mpos hc52_272)).mp q))) (by decide) (by decide) ?_
              refine XT.iconstV X383.here hx rfl (0 : Int32) (hb hby at_196) (by decide) ?_
              show oS p e below T383 (mkF m 197 #[iv p0, iv p1, iv p2, iv p3, iv p0, rv b268, iv (own_m p0), iv ((own_r p1 (own_m p0))), iv ((own_r p2 (own_m p0))), rv b362, rv b371, .val (.double (FP.ddiv (FP.i2d (own_r p1 (own_m p0))) (FP.i2d (own_m p0)))), .second, .val (.double (FP.ddiv (FP.i2d (own_r p2 (own_m p0))) (FP.i2d (own_m p0)))), .second, .unset, .unset, .unset, .unset] [(.int 0)]) _
              refine XS.iload X383.here hx rfl (hb hby at_197) rfl ?_
              refine XS.iload X383.here hx rfl (hb hby at_199) rfl ?_
              refine XS.icmpYes X383.here hx rfl (pc0 := 201) (pc' := 208) rfl (hb hby at_201) rfl (XT.ii_ne_t hf185_394) (by decide) (by decide) ?_
              refine XT.iconstV X383.here hx rfl (0 : Int32) (hb hby at_208) (by decide) ?_
              refine XS.icmpYes X383.here hx rfl (pc0 := 209) (pc' := 214) rfl (hb hby at_209) rfl (XT.ii_eq_t (by decide)) (by decide) (by decide) ?_
              exact kz)
            exact S396 tz kz
        have S397 : ∀ tz, oS p e below T383 (mkF m 214 #[iv p0, iv p1, iv p2, iv p3, iv p0, rv b268, iv (own_m p0), iv ((own_r p1 (own_m p0))), iv ((own_r p2 (own_m p0))), rv b362, rv b371, .val (.double (FP.ddiv (FP.i2d (own_r p1 (own_m p0))) (FP.i2d (own_m p0)))), .second, .val (.double (FP.ddiv (FP.i2d (own_r p2 (own_m p0))) (FP.i2d (own_m p0)))), .second, .unset, .unset, .unset, .unset] []) tz → oS p e below s₁ (mkF m 0 #[iv p0, iv p1, iv p2, iv p3, .unset, .unset, .unset, .unset, .unset, .unset, .unset, .unset, .unset, .unset, .unset, .unset, .unset, .unset, .unset] []) tz := fun tz kz => S392 tz (by
          show oS p e below T383 (mkF m 185 #[iv p0, iv p1, iv p2, iv p3, iv p0, rv b268, iv (own_m p0), iv ((own_r p1 (own_m p0))), iv ((own_r p2 (own_m p0))), rv b362, rv b371, .val (.double (FP.ddiv (FP.i2d (own_r p1 (own_m p0))) (FP.i2d (own_m p0)))), .second, .val (.double (FP.ddiv (FP.i2d (own_r p2 (own_m p0))) (FP.i2d (own_m p0)))), .second, .unset, .unset, .unset, .unset] []) _
          refine M393 _ ?_
          show oS p e below T383 (mkF m 214 #[iv p0, iv p1, iv p2, iv p3, iv p0, rv b268, iv (own_m p0), iv ((own_r p1 (own_m p0))), iv ((own_r p2 (own_m p0))), rv b362, rv b371, .val (.double (FP.ddiv (FP.i2d (own_r p1 (own_m p0))) (FP.i2d (own_m p0)))), .second, .val (.double (FP.ddiv (FP.i2d (own_r p2 (own_m p0))) (FP.i2d (own_m p0)))), .second, .unset, .unset, .unset, .unset] []) _
          exact kz)
        have M398 : ∀ tz, oS p e below T383 (mkF m 244 #[iv p0, iv p1, iv p2, iv p3, iv p0, rv b268, iv (own_m p0), iv ((own_r p1 (own_m p0))), iv ((own_r p2 (own_m p0))), rv b362, rv b371, .val (.double (FP.ddiv (FP.i2d (own_r p1 (own_m p0))) (FP.i2d (own_m p0)))), .second, .val (.double (FP.ddiv (FP.i2d (own_r p2 (own_m p0))) (FP.i2d (own_m p0)))), .second, .unset, .unset, .unset, .unset] []) tz → oS p e below T383 (mkF m 214 #[iv p0, iv p1, iv p2, iv p3, iv p0, rv b268, iv (own_m p0), iv ((own_r p1 (own_m p0))), iv ((own_r p2 (own_m p0))), rv b362, rv b371, .val (.double (FP.ddiv (FP.i2d (own_r p1 (own_m p0))) (FP.i2d (own_m p0)))), .second, .val (.double (FP.ddiv (FP.i2d (own_r p2 (own_m p0))) (FP.i2d (own_m p0)))), .second, .unset, .unset, .unset, .unset] []) tz := by
          intro tz kz
          by_cases hf214_399 : (own_r p1 (own_m p0)) < (own_r p2 (own_m p0))
          · have S400 : ∀ tz, oS p e below T383 (mkF m 244 #[iv p0, iv p1, iv p2, iv p3, iv p0, rv b268, iv (own_m p0), iv ((own_r p1 (own_m p0))), iv ((own_r p2 (own_m p0))), rv b362, rv b371, .val (.double (FP.ddiv (FP.i2d (own_r p1 (own_m p0))) (FP.i2d (own_m p0)))), .second, .val (.double (FP.ddiv (FP.i2d (own_r p2 (own_m p0))) (FP.i2d (own_m p0)))), .second, .unset, .unset, .unset, .unset] []) tz → oS p e below T383 (mkF m 214 #[iv p0, iv p1, iv p2, iv p3, iv p0, rv b268, iv (own_m p0), iv ((own_r p1 (own_m p0))), iv ((own_r p2 (own_m p0))), rv b362, rv b371, .val (.double (FP.ddiv (FP.i2d (own_r p1 (own_m p0))) (FP.i2d (own_m p0)))), .second, .val (.double (FP.ddiv (FP.i2d (own_r p2 (own_m p0))) (FP.i2d (own_m p0)))), .second, .unset, .unset, .unset, .unset] []) tz := fun tz kz => id (by
              show oS p e below T383 (mkF m 214 #[iv p0, iv p1, iv p2, iv p3, iv p0, rv b268, iv (own_m p0), iv ((own_r p1 (own_m p0))), iv ((own_r p2 (own_m p0))), rv b362, rv b371, .val (.double (FP.ddiv (FP.i2d (own_r p1 (own_m p0))) (FP.i2d (own_m p0)))), .second, .val (.double (FP.ddiv (FP.i2d (own_r p2 (own_m p0))) (FP.i2d (own_m p0)))), .second, .unset, .unset, .unset, .unset] []) _
              refine XS.iload X383.here hx rfl (hb hby at_214) rfl ?_
              refine XS.iload X383.here hx rfl (hb hby at_216) rfl ?_
              refine XS.icmpNo X383.here hx rfl (hb hby at_218) rfl (XT.ii_ge_f hf214_399) ?_
              refine XT.iconstV X383.here hx rfl (1 : Int32) (hb hby at_221) (by decide) ?_
              show oS p e below T383 (mkF m 222 #[iv p0, iv p1, iv p2, iv p3, iv p0, rv b268, iv (own_m p0), iv ((own_r p1 (own_m p0))), iv ((own_r p2 (own_m p0))), rv b362, rv b371, .val (.double (FP.ddiv (FP.i2d (own_r p1 (own_m p0))) (FP.i2d (own_m p0)))), .second, .val (.double (FP.ddiv (FP.i2d (own_r p2 (own_m p0))) (FP.i2d (own_m p0)))), .second, .unset, .unset, .unset, .unset] [(.int 1)]) _
              refine XS.goto X383.here hx rfl (pc0 := 222) (pc' := 226) rfl (hb hby at_222) (by decide) (by decide) ?_
              refine XS.dload X383.here hx rfl (hb hby at_226) rfl ?_
              refine XS.dload X383.here hx rfl (hb hby at_228) rfl ?_
              refine XS.dcmpS X383.here hx rfl (hb hby at_230) rfl rfl ?_
              refine XS.ifNo X383.here hx rfl (hb hby at_231) rfl (XT.i0_ge_f ((own_tl (own_rv p1 (own_mpos hc52_272)) (own_rv p2 (own_mpos hc52_272)) (own_mpos hc52_272)).mpr hf214_399)) ?_
              refine XT.iconstV X383.here hx rfl (1 : Int32) (hb hby at_234) (by decide) ?_
              refine XS.goto X383.here hx rfl (pc0 := 235) (pc' := 239) rfl (hb hby at_235) (by decide) (by decide) ?_
              refine XS.icmpYes X383.here hx rfl (pc0 := 239) (pc' := 244) rfl (hb hby at_239) rfl (XT.ii_eq_t (by decide)) (by decide) (by decide) ?_
              exact kz)
            exact S400 tz kz
          · have S401 : ∀ tz, oS p e below T383 (mkF m 244 #[iv p0, iv p1, iv p2, iv p3, iv p0, rv b268, iv (own_m p0), iv ((own_r p1 (own_m p0))), iv ((own_r p2 (own_m p0))), rv b362, rv b371, .val (.double (FP.ddiv (FP.i2d (own_r p1 (own_m p0))) (FP.i2d (own_m p0)))), .second, .val (.double (FP.ddiv (FP.i2d (own_r p2 (own_m p0))) (FP.i2d (own_m p0)))), .second, .unset, .unset, .unset, .unset] []) tz → oS p e below T383 (mkF m 214 #[iv p0, iv p1, iv p2, iv p3, iv p0, rv b268, iv (own_m p0), iv ((own_r p1 (own_m p0))), iv ((own_r p2 (own_m p0))), rv b362, rv b371, .val (.double (FP.ddiv (FP.i2d (own_r p1 (own_m p0))) (FP.i2d (own_m p0)))), .second, .val (.double (FP.ddiv (FP.i2d (own_r p2 (own_m p0))) (FP.i2d (own_m p0)))), .second, .unset, .unset, .unset, .unset] []) tz := fun tz kz => id (by
              show oS p e below T383 (mkF m 214 #[iv p0, iv p1, iv p2, iv p3, iv p0, rv b268, iv (own_m p0), iv ((own_r p1 (own_m p0))), iv ((own_r p2 (own_m p0))), rv b362, rv b371, .val (.double (FP.ddiv (FP.i2d (own_r p1 (own_m p0))) (FP.i2d (own_m p0)))), .second, .val (.double (FP.ddiv (FP.i2d (own_r p2 (own_m p0))) (FP.i2d (own_m p0)))), .second, .unset, .unset, .unset, .unset] []) _
              refine XS.iload X383.here hx rfl (hb hby at_214) rfl ?_
              refine XS.iload X383.here hx rfl (hb hby at_216) rfl ?_
              refine XS.icmpYes X383.here hx rfl (pc0 := 218) (pc' := 225) rfl (hb hby at_218) rfl (XT.ii_ge_t hf214_399) (by decide) (by decide) ?_
              refine XT.iconstV X383.here hx rfl (0 : Int32) (hb hby at_225) (by decide) ?_
              show oS p e below T383 (mkF m 226 #[iv p0, iv p1, iv p2, iv p3, iv p0, rv b268, iv (own_m p0), iv ((own_r p1 (own_m p0))), iv ((own_r p2 (own_m p0))), rv b362, rv b371, .val (.double (FP.ddiv (FP.i2d (own_r p1 (own_m p0))) (FP.i2d (own_m p0)))), .second, .val (.double (FP.ddiv (FP.i2d (own_r p2 (own_m p0))) (FP.i2d (own_m p0)))), .second, .unset, .unset, .unset, .unset] [(.int 0)]) _
              refine XS.dload X383.here hx rfl (hb hby at_226) rfl ?_
              refine XS.dload X383.here hx rfl (hb hby at_228) rfl ?_
              refine XS.dcmpS X383.here hx rfl (hb hby at_230) rfl rfl ?_
              refine XS.ifYes X383.here hx rfl (pc0 := 231) (pc' := 238) rfl (hb hby at_231) rfl (XT.i0_ge_t (fun q => hf214_399 ((own_tl (own_rv p1 (own_mpos hc52_272)) (own_rv p2 (own_mpos hc52_272)) (own_mpos hc52_272)).mp q))) (by decide) (by decide) ?_
              refine XT.iconstV X383.here hx rfl (0 : Int32) (hb hby at_238) (by decide) ?_
              refine XS.icmpYes X383.here hx rfl (pc0 := 239) (pc' := 244) rfl (hb hby at_239) rfl (XT.ii_eq_t (by decide)) (by decide) (by decide) ?_
              exact kz)
            exact S401 tz kz
        have S402 : ∀ tz, oS p e below T383 (mkF m 244 #[iv p0, iv p1, iv p2, iv p3, iv p0, rv b268, iv (own_m p0), iv ((own_r p1 (own_m p0))), iv ((own_r p2 (own_m p0))), rv b362, rv b371, .val (.double (FP.ddiv (FP.i2d (own_r p1 (own_m p0))) (FP.i2d (own_m p0)))), .second, .val (.double (FP.ddiv (FP.i2d (own_r p2 (own_m p0))) (FP.i2d (own_m p0)))), .second, .unset, .unset, .unset, .unset] []) tz → oS p e below s₁ (mkF m 0 #[iv p0, iv p1, iv p2, iv p3, .unset, .unset, .unset, .unset, .unset, .unset, .unset, .unset, .unset, .unset, .unset, .unset, .unset, .unset, .unset] []) tz := fun tz kz => S397 tz (by
          show oS p e below T383 (mkF m 214 #[iv p0, iv p1, iv p2, iv p3, iv p0, rv b268, iv (own_m p0), iv ((own_r p1 (own_m p0))), iv ((own_r p2 (own_m p0))), rv b362, rv b371, .val (.double (FP.ddiv (FP.i2d (own_r p1 (own_m p0))) (FP.i2d (own_m p0)))), .second, .val (.double (FP.ddiv (FP.i2d (own_r p2 (own_m p0))) (FP.i2d (own_m p0)))), .second, .unset, .unset, .unset, .unset] []) _
          refine M398 _ ?_
          show oS p e below T383 (mkF m 244 #[iv p0, iv p1, iv p2, iv p3, iv p0, rv b268, iv (own_m p0), iv ((own_r p1 (own_m p0))), iv ((own_r p2 (own_m p0))), rv b362, rv b371, .val (.double (FP.ddiv (FP.i2d (own_r p1 (own_m p0))) (FP.i2d (own_m p0)))), .second, .val (.double (FP.ddiv (FP.i2d (own_r p2 (own_m p0))) (FP.i2d (own_m p0)))), .second, .unset, .unset, .unset, .unset] []) _
          exact kz)
        have M403 : ∀ tz, oS p e below T383 (mkF m 274 #[iv p0, iv p1, iv p2, iv p3, iv p0, rv b268, iv (own_m p0), iv ((own_r p1 (own_m p0))), iv ((own_r p2 (own_m p0))), rv b362, rv b371, .val (.double (FP.ddiv (FP.i2d (own_r p1 (own_m p0))) (FP.i2d (own_m p0)))), .second, .val (.double (FP.ddiv (FP.i2d (own_r p2 (own_m p0))) (FP.i2d (own_m p0)))), .second, .unset, .unset, .unset, .unset] []) tz → oS p e below T383 (mkF m 244 #[iv p0, iv p1, iv p2, iv p3, iv p0, rv b268, iv (own_m p0), iv ((own_r p1 (own_m p0))), iv ((own_r p2 (own_m p0))), rv b362, rv b371, .val (.double (FP.ddiv (FP.i2d (own_r p1 (own_m p0))) (FP.i2d (own_m p0)))), .second, .val (.double (FP.ddiv (FP.i2d (own_r p2 (own_m p0))) (FP.i2d (own_m p0)))), .second, .unset, .unset, .unset, .unset] []) tz := by
          intro tz kz
          by_cases hf244_404 : (own_r p1 (own_m p0)) = (own_r p2 (own_m p0))
          · have S405 : ∀ tz, oS p e below T383 (mkF m 274 #[iv p0, iv p1, iv p2, iv p3, iv p0, rv b268, iv (own_m p0), iv ((own_r p1 (own_m p0))), iv ((own_r p2 (own_m p0))), rv b362, rv b371, .val (.double (FP.ddiv (FP.i2d (own_r p1 (own_m p0))) (FP.i2d (own_m p0)))), .second, .val (.double (FP.ddiv (FP.i2d (own_r p2 (own_m p0))) (FP.i2d (own_m p0)))), .second, .unset, .unset, .unset, .unset] []) tz → oS p e below T383 (mkF m 244 #[iv p0, iv p1, iv p2, iv p3, iv p0, rv b268, iv (own_m p0), iv ((own_r p1 (own_m p0))), iv ((own_r p2 (own_m p0))), rv b362, rv b371, .val (.double (FP.ddiv (FP.i2d (own_r p1 (own_m p0))) (FP.i2d (own_m p0)))), .second, .val (.double (FP.ddiv (FP.i2d (own_r p2 (own_m p0))) (FP.i2d (own_m p0)))), .second, .unset, .unset, .unset, .unset] []) tz := fun tz kz => id (by
              show oS p e below T383 (mkF m 244 #[iv p0, iv p1, iv p2, iv p3, iv p0, rv b268, iv (own_m p0), iv ((own_r p1 (own_m p0))), iv ((own_r p2 (own_m p0))), rv b362, rv b371, .val (.double (FP.ddiv (FP.i2d (own_r p1 (own_m p0))) (FP.i2d (own_m p0)))), .second, .val (.double (FP.ddiv (FP.i2d (own_r p2 (own_m p0))) (FP.i2d (own_m p0)))), .second, .unset, .unset, .unset, .unset] []) _
              refine XS.iload X383.here hx rfl (hb hby at_244) rfl ?_
              refine XS.iload X383.here hx rfl (hb hby at_246) rfl ?_
              refine XS.icmpNo X383.here hx rfl (hb hby at_248) rfl (XT.ii_ne_f hf244_404) ?_
              show oS p e below T383 (mkF m 251 #[iv p0, iv p1, iv p2, iv p3, iv p0, rv b268, iv (own_m p0), iv ((own_r p1 (own_m p0))), iv ((own_r p2 (own_m p0))), rv b362, rv b371, .val (.double (FP.ddiv (FP.i2d (own_r p1 (own_m p0))) (FP.i2d (own_m p0)))), .second, .val (.double (FP.ddiv (FP.i2d (own_r p2 (own_m p0))) (FP.i2d (own_m p0)))), .second, .unset, .unset, .unset, .unset] []) _
              refine XT.iconstV X383.here hx rfl (1 : Int32) (hb hby at_251) (by decide) ?_
              refine XS.goto X383.here hx rfl (pc0 := 252) (pc' := 256) rfl (hb hby at_252) (by decide) (by decide) ?_
              refine XS.dload X383.here hx rfl (hb hby at_256) rfl ?_
              refine XS.dload X383.here hx rfl (hb hby at_258) rfl ?_
              refine XS.dcmpS X383.here hx rfl (hb hby at_260) rfl rfl ?_
              refine XS.ifNo X383.here hx rfl (hb hby at_261) rfl (XT.i0_ne_f ((own_te (own_rv p1 (own_mpos hc52_272)) (own_rv p2 (own_mpos hc52_272)) (own_mpos hc52_272)).mpr hf244_404)) ?_
              refine XT.iconstV X383.here hx rfl (1 : Int32) (hb hby at_264) (by decide) ?_
              refine XS.goto X383.here hx rfl (pc0 := 265) (pc' := 269) rfl (hb hby at_265) (by decide) (by decide) ?_
              refine XS.icmpYes X383.here hx rfl (pc0 := 269) (pc' := 274) rfl (hb hby at_269) rfl (XT.ii_eq_t (by decide)) (by decide) (by decide) ?_
              exact kz)
            exact S405 tz kz
          · have S406 : ∀ tz, oS p e below T383 (mkF m 274 #[iv p0, iv p1, iv p2, iv p3, iv p0, rv b268, iv (own_m p0), iv ((own_r p1 (own_m p0))), iv ((own_r p2 (own_m p0))), rv b362, rv b371, .val (.double (FP.ddiv (FP.i2d (own_r p1 (own_m p0))) (FP.i2d (own_m p0)))), .second, .val (.double (FP.ddiv (FP.i2d (own_r p2 (own_m p0))) (FP.i2d (own_m p0)))), .second, .unset, .unset, .unset, .unset] []) tz → oS p e below T383 (mkF m 244 #[iv p0, iv p1, iv p2, iv p3, iv p0, rv b268, iv (own_m p0), iv ((own_r p1 (own_m p0))), iv ((own_r p2 (own_m p0))), rv b362, rv b371, .val (.double (FP.ddiv (FP.i2d (own_r p1 (own_m p0))) (FP.i2d (own_m p0)))), .second, .val (.double (FP.ddiv (FP.i2d (own_r p2 (own_m p0))) (FP.i2d (own_m p0)))), .second, .unset, .unset, .unset, .unset] []) tz := fun tz kz => id (by
              show oS p e below T383 (mkF m 244 #[iv p0, iv p1, iv p2, iv p3, iv p0, rv b268, iv (own_m p0), iv ((own_r p1 (own_m p0))), iv ((own_r p2 (own_m p0))), rv b362, rv b371, .val (.double (FP.ddiv (FP.i2d (own_r p1 (own_m p0))) (FP.i2d (own_m p0)))), .second, .val (.double (FP.ddiv (FP.i2d (own_r p2 (own_m p0))) (FP.i2d (own_m p0)))), .second, .unset, .unset, .unset, .unset] []) _
              refine XS.iload X383.here hx rfl (hb hby at_244) rfl ?_
              refine XS.iload X383.here hx rfl (hb hby at_246) rfl ?_
              refine XS.icmpYes X383.here hx rfl (pc0 := 248) (pc' := 255) rfl (hb hby at_248) rfl (XT.ii_ne_t hf244_404) (by decide) (by decide) ?_
              show oS p e below T383 (mkF m 255 #[iv p0, iv p1, iv p2, iv p3, iv p0, rv b268, iv (own_m p0), iv ((own_r p1 (own_m p0))), iv ((own_r p2 (own_m p0))), rv b362, rv b371, .val (.double (FP.ddiv (FP.i2d (own_r p1 (own_m p0))) (FP.i2d (own_m p0)))), .second, .val (.double (FP.ddiv (FP.i2d (own_r p2 (own_m p0))) (FP.i2d (own_m p0)))), .second, .unset, .unset, .unset, .unset] []) _
              refine XT.iconstV X383.here hx rfl (0 : Int32) (hb hby at_255) (by decide) ?_
              refine XS.dload X383.here hx rfl (hb hby at_256) rfl ?_
              refine XS.dload X383.here hx rfl (hb hby at_258) rfl ?_
              refine XS.dcmpS X383.here hx rfl (hb hby at_260) rfl rfl ?_
              refine XS.ifYes X383.here hx rfl (pc0 := 261) (pc' := 268) rfl (hb hby at_261) rfl (XT.i0_ne_t (fun q => hf244_404 ((own_te (own_rv p1 (own_mpos hc52_272)) (own_rv p2 (own_mpos hc52_272)) (own_mpos hc52_272)).mp q))) (by decide) (by decide) ?_
              refine XT.iconstV X383.here hx rfl (0 : Int32) (hb hby at_268) (by decide) ?_
              refine XS.icmpYes X383.here hx rfl (pc0 := 269) (pc' := 274) rfl (hb hby at_269) rfl (XT.ii_eq_t (by decide)) (by decide) (by decide) ?_
              exact kz)
            exact S406 tz kz
        have S407 : ∀ tz, oS p e below T383 (mkF m 278 #[iv p0, iv p1, iv p2, iv p3, iv p0, rv b268, iv (own_m p0), iv ((own_r p1 (own_m p0))), iv ((own_r p2 (own_m p0))), rv b362, rv b371, .val (.double (FP.ddiv (FP.i2d (own_r p1 (own_m p0))) (FP.i2d (own_m p0)))), .second, .val (.double (FP.ddiv (FP.i2d (own_r p2 (own_m p0))) (FP.i2d (own_m p0)))), .second, .unset, .unset, .unset, .unset] [(.int 1073741823), (.int (own_m p0))]) tz → oS p e below s₁ (mkF m 0 #[iv p0, iv p1, iv p2, iv p3, .unset, .unset, .unset, .unset, .unset, .unset, .unset, .unset, .unset, .unset, .unset, .unset, .unset, .unset, .unset] []) tz := fun tz kz => S402 tz (by
          show oS p e below T383 (mkF m 244 #[iv p0, iv p1, iv p2, iv p3, iv p0, rv b268, iv (own_m p0), iv ((own_r p1 (own_m p0))), iv ((own_r p2 (own_m p0))), rv b362, rv b371, .val (.double (FP.ddiv (FP.i2d (own_r p1 (own_m p0))) (FP.i2d (own_m p0)))), .second, .val (.double (FP.ddiv (FP.i2d (own_r p2 (own_m p0))) (FP.i2d (own_m p0)))), .second, .unset, .unset, .unset, .unset] []) _
          refine M403 _ ?_
          show oS p e below T383 (mkF m 274 #[iv p0, iv p1, iv p2, iv p3, iv p0, rv b268, iv (own_m p0), iv ((own_r p1 (own_m p0))), iv ((own_r p2 (own_m p0))), rv b362, rv b371, .val (.double (FP.ddiv (FP.i2d (own_r p1 (own_m p0))) (FP.i2d (own_m p0)))), .second, .val (.double (FP.ddiv (FP.i2d (own_r p2 (own_m p0))) (FP.i2d (own_m p0)))), .second, .unset, .unset, .unset, .unset] []) _
          refine XS.iload X383.here hx rfl (hb hby at_274) rfl ?_
          refine X383.ldcI hx hown (mvT hZ (hw _ (own_w 69 rfl))) rfl (hb hby at_276) ?_
          show oS p e below T383 (mkF m 278 #[iv p0, iv p1, iv p2, iv p3, iv p0, rv b268, iv (own_m p0), iv ((own_r p1 (own_m p0))), iv ((own_r p2 (own_m p0))), rv b362, rv b371, .val (.double (FP.ddiv (FP.i2d (own_r p1 (own_m p0))) (FP.i2d (own_m p0)))), .second, .val (.double (FP.ddiv (FP.i2d (own_r p2 (own_m p0))) (FP.i2d (own_m p0)))), .second, .unset, .unset, .unset, .unset] [(.int 1073741823), (.int (own_m p0))]) _
          exact kz)
        by_cases hc278_408 : (1073741823 : Int32) < (own_m p0)
        · obtain ⟨_, T409, Lc409, X409, hQ409, st409⟩ := own_callS (W := 0) (y := mN7) X383 hx hZ hown (hw _ (own_w 0 rfl)) (hw _ (own_w 1 rfl)) (hw _ (own_w 2 rfl)) (hw _ (own_w 3 rfl)) (by decide) (rmMk l Z av0 hw [] (own_pp p3) (own_r p2 (own_pp p3)) T371.heap n0 Zk371 ) (by decide) (by decide) (g := (mkF m 350 #[iv p0, iv p1, iv p2, iv p3, iv p0, rv b268, iv (own_m p0), iv ((own_r p1 (own_m p0))), iv ((own_r p2 (own_m p0))), rv b362, rv b371, .val (.double (FP.ddiv (FP.i2d (own_r p1 (own_m p0))) (FP.i2d (own_m p0)))), .second, .val (.double (FP.ddiv (FP.i2d (own_r p2 (own_m p0))) (FP.i2d (own_m p0)))), .second, iv (own_kk p3), iv (own_pp p3), iv ((own_r p2 (own_pp p3))), .unset] [(.int (own_r p2 (own_pp p3))), (.int (own_pp p3))])) rfl (by rw [hml]; rfl) (argsL := [(.int (own_pp p3)), (.int (own_r p2 (own_pp p3)))]) (rest := []) (lenOf pd__II_Lcom_example_graftwork_graftwork_simulate_Summary_ rfl) rfl (hb hby at_350) rfl e383 (by decide : 6 + 1 ≤ _) (by decide : 30 + 8 ≤ _)
          obtain ⟨b409, rfl, N409q, gb409, K409, E409, Fa409, Fc409⟩ := hQ409
          have N409 := Fr.app N383 N409q
          have e409 : T409.heap = T409.heap := rfl
          have f410 := (f372.keep K371)
          have ne_aE_b409 : aE ≠ b409 := Nat.ne_of_lt (Nat.lt_of_lt_of_le f410.lt gb409)
          have f411 := (f373.keep K371)
          have ne_b267_b409 : b267 ≠ b409 := Nat.ne_of_lt (Nat.lt_of_lt_of_le f411.lt gb409)
          have f412 := (f374.keep K371)
          have ne_b268_b409 : b268 ≠ b409 := Nat.ne_of_lt (Nat.lt_of_lt_of_le f412.lt gb409)
          have f413 := (f375.keep K371)
          have ne_b359_b409 : b359 ≠ b409 := Nat.ne_of_lt (Nat.lt_of_lt_of_le f413.lt gb409)
          have ne_b362_b409 : b362 ≠ b409 := Nat.ne_of_lt (Nat.lt_of_lt_of_le f379.lt gb409)
          have f414 := (E366.keep K371)
          have ne_b366_b409 : b366 ≠ b409 := Nat.ne_of_lt (Nat.lt_of_lt_of_le f414.lt gb409)
          have ne_b371_b409 : b371 ≠ b409 := Nat.ne_of_lt (Nat.lt_of_lt_of_le E371.lt gb409)
          have ge_b409 : n0 ≤ b409 := Nat.le_trans Zk371 gb409
          have sz_b409 : h0.size ≤ b409 := Nat.le_trans Kk371.1 gb409
          have Zk409 : n0 ≤ T409.heap.size := Nat.le_trans Zk371 K409.1
          have Kk409 : Keep h0 T409.heap [] := Kk371.trans K409 all0
          obtain ⟨_, T415, Lc415, X415, hQ415, st415⟩ := own_virtual (W := 0) (y := mN8) (z := mN8) X409 hx hZ hown (hw _ (own_w 34 rfl)) (hw _ (own_w 35 rfl)) (notFace_of_selects (args := #[]) (mvT hZ (hw _ (own_w 37 rfl)))) (hw _ (own_w 37 rfl)) (hw _ (own_w 36 rfl)) (hw _ (own_w 38 rfl)) (hw _ (own_w 6 rfl)) (by decide) (rmRatP l Z av0 hw [] b409 (own_pp p3) (own_r p2 (own_pp p3)) T409.heap n0 Zk409 Fa409 Fc409 (own_pnz (own_ppos p3))) (by decide) (by decide) E409 (g := (mkF m 353 #[iv p0, iv p1, iv p2, iv p3, iv p0, rv b268, iv (own_m p0), iv ((own_r p1 (own_m p0))), iv ((own_r p2 (own_m p0))), rv b362, rv b371, .val (.double (FP.ddiv (FP.i2d (own_r p1 (own_m p0))) (FP.i2d (own_m p0)))), .second, .val (.double (FP.ddiv (FP.i2d (own_r p2 (own_m p0))) (FP.i2d (own_m p0)))), .second, iv (own_kk p3), iv (own_pp p3), iv ((own_r p2 (own_pp p3))), .unset] [(.ref b409)])) rfl (by rw [hml]; rfl) (argsL := []) (rest := []) (lenOf pd__Ljava_util_OptionalDouble_ rfl) rfl (hb hby at_353) rfl e409 (by decide : 7 + 1 ≤ _) (by decide : 38 + 2 ≤ _)
          obtain ⟨b415, rfl, N415q, gb415, K415, E415, I415, V415⟩ := hQ415
          have N415 := Fr.app N409 N415q
          have e415 : T415.heap = T415.heap := rfl
          have f416 := (f410.keep K409)
          have ne_aE_b415 : aE ≠ b415 := Nat.ne_of_lt (Nat.lt_of_lt_of_le f416.lt gb415)
          have f417 := (f411.keep K409)
          have ne_b267_b415 : b267 ≠ b415 := Nat.ne_of_lt (Nat.lt_of_lt_of_le f417.lt gb415)
          have f418 := (f412.keep K409)
          have ne_b268_b415 : b268 ≠ b415 := Nat.ne_of_lt (Nat.lt_of_lt_of_le f418.lt gb415)
          have f419 := (f413.keep K409)
          have ne_b359_b415 : b359 ≠ b415 := Nat.ne_of_lt (Nat.lt_of_lt_of_le f419.lt gb415)
          have f420 := (f379.keep K409)
          have ne_b362_b415 : b362 ≠ b415 := Nat.ne_of_lt (Nat.lt_of_lt_of_le f420.lt gb415)
          have f421 := (f414.keep K409)
          have ne_b366_b415 : b366 ≠ b415 := Nat.ne_of_lt (Nat.lt_of_lt_of_le f421.lt gb415)
          have f422 := (E371.keep K409)
          have ne_b371_b415 : b371 ≠ b415 := Nat.ne_of_lt (Nat.lt_of_lt_of_le f422.lt gb415)
          have ne_b409_b415 : b409 ≠ b415 := Nat.ne_of_lt (Nat.lt_of_lt_of_le E409.lt gb415)
          have ge_b415 : n0 ≤ b415 := Nat.le_trans Zk409 gb415
          have sz_b415 : h0.size ≤ b415 := Nat.le_trans Kk409.1 gb415
          have Zk415 : n0 ≤ T415.heap.size := Nat.le_trans Zk409 K415.1
          have Kk415 : Keep h0 T415.heap [] := Kk409.trans K415 all0
          obtain ⟨_, T423, Lc423, X423, hQ423, st423⟩ := own_virtual (W := 0) (y := mN3) (z := mN3) X415 hx hZ hown (hw _ (own_w 44 rfl)) (hw _ (own_w 45 rfl)) (notFace_of_selects (args := #[]) (mvT hZ (hw _ (own_w 47 rfl)))) (hw _ (own_w 47 rfl)) (hw _ (own_w 46 rfl)) (hw _ (own_w 48 rfl)) (hw _ (own_w 41 rfl)) (by decide) (rmIs1 l Z av0 hw [] b415 T415.heap n0 Zk415 I415) (by decide) (by decide) E415 (g := (mkF m 360 #[iv p0, iv p1, iv p2, iv p3, iv p0, rv b268, iv (own_m p0), iv ((own_r p1 (own_m p0))), iv ((own_r p2 (own_m p0))), rv b362, rv b371, .val (.double (FP.ddiv (FP.i2d (own_r p1 (own_m p0))) (FP.i2d (own_m p0)))), .second, .val (.double (FP.ddiv (FP.i2d (own_r p2 (own_m p0))) (FP.i2d (own_m p0)))), .second, iv (own_kk p3), iv (own_pp p3), iv ((own_r p2 (own_pp p3))), rv b415] [(.ref b415)])) rfl (by rw [hml]; rfl) (argsL := []) (rest := []) (lenOf pd__Z rfl) rfl (hb hby at_360) rfl e415 (by decide : 8 + 0 ≤ _) (by decide : 40 + 0 ≤ _)
          obtain ⟨rfl, N423q, hh423⟩ := hQ423
          have N423 := Fr.app N415 N423q
          have e423 : T423.heap = T415.heap := hh423
          obtain ⟨_, T424, Lc424, X424, hQ424, st424⟩ := own_virtual (W := 0) (y := mN4) (z := mN4) X423 hx hZ hown (hw _ (own_w 64 rfl)) (hw _ (own_w 65 rfl)) (notFace_of_selects (args := #[]) (mvT hZ (hw _ (own_w 67 rfl)))) (hw _ (own_w 67 rfl)) (hw _ (own_w 66 rfl)) (hw _ (own_w 68 rfl)) (hw _ (own_w 41 rfl)) (by decide) (rmGet l Z av0 hw [] b415 (FP.ddiv (FP.i2d (own_r p2 (own_pp p3))) (FP.i2d (own_pp p3))) T415.heap n0 Zk415 I415 V415) (by decide) (by decide) E415 (g := (mkF m 370 #[iv p0, iv p1, iv p2, iv p3, iv p0, rv b268, iv (own_m p0), iv ((own_r p1 (own_m p0))), iv ((own_r p2 (own_m p0))), rv b362, rv b371, .val (.double (FP.ddiv (FP.i2d (own_r p1 (own_m p0))) (FP.i2d (own_m p0)))), .second, .val (.double (FP.ddiv (FP.i2d (own_r p2 (own_m p0))) (FP.i2d (own_m p0)))), .second, iv (own_kk p3), iv (own_pp p3), iv ((own_r p2 (own_pp p3))), rv b415] [(.ref b415)])) rfl (by rw [hml]; rfl) (argsL := []) (rest := []) (lenOf pd__D rfl) rfl (hb hby at_370) rfl e423 (by decide : 8 + 0 ≤ _) (by decide : 40 + 0 ≤ _)
          obtain ⟨rfl, N424q, hh424⟩ := hQ424
          have N424 := Fr.app N423 N424q
          have e424 : T424.heap = T415.heap := hh424
          have S425 : ∀ tz, oS p e below T424 (mkF m 389 #[iv p0, iv p1, iv p2, iv p3, iv p0, rv b268, iv (own_m p0), iv ((own_r p1 (own_m p0))), iv ((own_r p2 (own_m p0))), rv b362, rv b371, .val (.double (FP.ddiv (FP.i2d (own_r p1 (own_m p0))) (FP.i2d (own_m p0)))), .second, .val (.double (FP.ddiv (FP.i2d (own_r p2 (own_m p0))) (FP.i2d (own_m p0)))), .second, iv (own_kk p3), iv (own_pp p3), iv ((own_r p2 (own_pp p3))), rv b415] [(.int 1)]) tz → oS p e below s₁ (mkF m 0 #[iv p0, iv p1, iv p2, iv p3, .unset, .unset, .unset, .unset, .unset, .unset, .unset, .unset, .unset, .unset, .unset, .unset, .unset, .unset, .unset] []) tz := fun tz kz => S407 tz (by
            show oS p e below T383 (mkF m 278 #[iv p0, iv p1, iv p2, iv p3, iv p0, rv b268, iv (own_m p0), iv ((own_r p1 (own_m p0))), iv ((own_r p2 (own_m p0))), rv b362, rv b371, .val (.double (FP.ddiv (FP.i2d (own_r p1 (own_m p0))) (FP.i2d (own_m p0)))), .second, .val (.double (FP.ddiv (FP.i2d (own_r p2 (own_m p0))) (FP.i2d (own_m p0)))), .second, .unset, .unset, .unset, .unset] [(.int 1073741823), (.int (own_m p0))]) _
            refine XS.icmpYes X383.here hx rfl (pc0 := 278) (pc' := 318) rfl (hb hby at_278) rfl (XT.ii_gt_t hc278_408) (by decide) (by decide) ?_
            refine XS.iloadN X383.here hx rfl (hb hby at_318) rfl ?_
            refine XT.iconstV X383.here hx rfl (1 : Int32) (hb hby at_319) (by decide) ?_
            refine XT.iushr X383.here hx rfl (hb hby at_320) rfl ?_
            refine XT.bipushV X383.here hx rfl (31 : Int32) (hb hby at_321) (by decide) ?_
            refine XS.irem X383.here hx rfl (hb hby at_323) rfl (by decide) ?_
            show oS p e below T383 (mkF m 324 #[iv p0, iv p1, iv p2, iv p3, iv p0, rv b268, iv (own_m p0), iv ((own_r p1 (own_m p0))), iv ((own_r p2 (own_m p0))), rv b362, rv b371, .val (.double (FP.ddiv (FP.i2d (own_r p1 (own_m p0))) (FP.i2d (own_m p0)))), .second, .val (.double (FP.ddiv (FP.i2d (own_r p2 (own_m p0))) (FP.i2d (own_m p0)))), .second, .unset, .unset, .unset, .unset] [(.int ((XT.ushr p3 (1 : Int32)) - ((XT.ushr p3 (1 : Int32)) / (31 : Int32)) * (31 : Int32)))]) _
            skip
            show oS p e below T383 (mkF m 324 #[iv p0, iv p1, iv p2, iv p3, iv p0, rv b268, iv (own_m p0), iv ((own_r p1 (own_m p0))), iv ((own_r p2 (own_m p0))), rv b362, rv b371, .val (.double (FP.ddiv (FP.i2d (own_r p1 (own_m p0))) (FP.i2d (own_m p0)))), .second, .val (.double (FP.ddiv (FP.i2d (own_r p2 (own_m p0))) (FP.i2d (own_m p0)))), .second, .unset, .unset, .unset, .unset] [(.int (own_kk p3))]) _
            refine XS.istore X383.here hx rfl (hb hby at_324) rfl (l' := #[iv p0, iv p1, iv p2, iv p3, iv p0, rv b268, iv (own_m p0), iv ((own_r p1 (own_m p0))), iv ((own_r p2 (own_m p0))), rv b362, rv b371, .val (.double (FP.ddiv (FP.i2d (own_r p1 (own_m p0))) (FP.i2d (own_m p0)))), .second, .val (.double (FP.ddiv (FP.i2d (own_r p2 (own_m p0))) (FP.i2d (own_m p0)))), .second, iv (own_kk p3), .unset, .unset, .unset]) rfl ?_
            refine XT.iconstV X383.here hx rfl (1 : Int32) (hb hby at_326) (by decide) ?_
            refine XS.iload X383.here hx rfl (hb hby at_327) rfl ?_
            show oS p e below T383 (mkF m 329 #[iv p0, iv p1, iv p2, iv p3, iv p0, rv b268, iv (own_m p0), iv ((own_r p1 (own_m p0))), iv ((own_r p2 (own_m p0))), rv b362, rv b371, .val (.double (FP.ddiv (FP.i2d (own_r p1 (own_m p0))) (FP.i2d (own_m p0)))), .second, .val (.double (FP.ddiv (FP.i2d (own_r p2 (own_m p0))) (FP.i2d (own_m p0)))), .second, iv (own_kk p3), .unset, .unset, .unset] [(.int (own_kk p3)), (.int 1)]) _
            refine XT.ishl X383.here hx rfl (hb hby at_329) rfl ?_
            show oS p e below T383 (mkF m 330 #[iv p0, iv p1, iv p2, iv p3, iv p0, rv b268, iv (own_m p0), iv ((own_r p1 (own_m p0))), iv ((own_r p2 (own_m p0))), rv b362, rv b371, .val (.double (FP.ddiv (FP.i2d (own_r p1 (own_m p0))) (FP.i2d (own_m p0)))), .second, .val (.double (FP.ddiv (FP.i2d (own_r p2 (own_m p0))) (FP.i2d (own_m p0)))), .second, iv (own_kk p3), .unset, .unset, .unset] [(.int ((1 : Int32) <<< ((own_kk p3) &&& 31)))]) _
            skip
            show oS p e below T383 (mkF m 330 #[iv p0, iv p1, iv p2, iv p3, iv p0, rv b268, iv (own_m p0), iv ((own_r p1 (own_m p0))), iv ((own_r p2 (own_m p0))), rv b362, rv b371, .val (.double (FP.ddiv (FP.i2d (own_r p1 (own_m p0))) (FP.i2d (own_m p0)))), .second, .val (.double (FP.ddiv (FP.i2d (own_r p2 (own_m p0))) (FP.i2d (own_m p0)))), .second, iv (own_kk p3), .unset, .unset, .unset] [(.int (own_pp p3))]) _
            refine XS.istore X383.here hx rfl (hb hby at_330) rfl (l' := #[iv p0, iv p1, iv p2, iv p3, iv p0, rv b268, iv (own_m p0), iv ((own_r p1 (own_m p0))), iv ((own_r p2 (own_m p0))), rv b362, rv b371, .val (.double (FP.ddiv (FP.i2d (own_r p1 (own_m p0))) (FP.i2d (own_m p0)))), .second, .val (.double (FP.ddiv (FP.i2d (own_r p2 (own_m p0))) (FP.i2d (own_m p0)))), .second, iv (own_kk p3), iv (own_pp p3), .unset, .unset]) rfl ?_
            refine XS.iloadN X383.here hx rfl (hb hby at_332) rfl ?_
            refine X383.ldcI hx hown (mvT hZ (hw _ (own_w 51 rfl))) rfl (hb hby at_333) ?_
            refine XS.iand X383.here hx rfl (hb hby at_335) rfl ?_
            show oS p e below T383 (mkF m 336 #[iv p0, iv p1, iv p2, iv p3, iv p0, rv b268, iv (own_m p0), iv ((own_r p1 (own_m p0))), iv ((own_r p2 (own_m p0))), rv b362, rv b371, .val (.double (FP.ddiv (FP.i2d (own_r p1 (own_m p0))) (FP.i2d (own_m p0)))), .second, .val (.double (FP.ddiv (FP.i2d (own_r p2 (own_m p0))) (FP.i2d (own_m p0)))), .second, iv (own_kk p3), iv (own_pp p3), .unset, .unset] [(.int (p2 &&& (2147483647 : Int32)))]) _
            skip
            show oS p e below T383 (mkF m 336 #[iv p0, iv p1, iv p2, iv p3, iv p0, rv b268, iv (own_m p0), iv ((own_r p1 (own_m p0))), iv ((own_r p2 (own_m p0))), rv b362, rv b371, .val (.double (FP.ddiv (FP.i2d (own_r p1 (own_m p0))) (FP.i2d (own_m p0)))), .second, .val (.double (FP.ddiv (FP.i2d (own_r p2 (own_m p0))) (FP.i2d (own_m p0)))), .second, iv (own_kk p3), iv (own_pp p3), .unset, .unset] [(.int (own_m p2))]) _
            refine XT.i2l X383.here hx rfl (hb hby at_336) rfl ?_
            refine XS.iload X383.here hx rfl (hb hby at_337) rfl ?_
            refine XT.i2l X383.here hx rfl (hb hby at_339) rfl ?_
            show oS p e below T383 (mkF m 340 #[iv p0, iv p1, iv p2, iv p3, iv p0, rv b268, iv (own_m p0), iv ((own_r p1 (own_m p0))), iv ((own_r p2 (own_m p0))), rv b362, rv b371, .val (.double (FP.ddiv (FP.i2d (own_r p1 (own_m p0))) (FP.i2d (own_m p0)))), .second, .val (.double (FP.ddiv (FP.i2d (own_r p2 (own_m p0))) (FP.i2d (own_m p0)))), .second, iv (own_kk p3), iv (own_pp p3), .unset, .unset] [(.long ((own_pp p3)).toInt64), (.long ((own_m p2)).toInt64)]) _
            refine XT.lconstV X383.here hx rfl (1 : Int64) (hb hby at_340) (by decide) ?_
            refine XT.ladd X383.here hx rfl (hb hby at_341) rfl ?_
            refine XT.lrem X383.here hx rfl (hb hby at_342) rfl (own_lnz (own_ppos p3)) ?_
            refine XT.l2i X383.here hx rfl (hb hby at_343) rfl ?_
            show oS p e below T383 (mkF m 344 #[iv p0, iv p1, iv p2, iv p3, iv p0, rv b268, iv (own_m p0), iv ((own_r p1 (own_m p0))), iv ((own_r p2 (own_m p0))), rv b362, rv b371, .val (.double (FP.ddiv (FP.i2d (own_r p1 (own_m p0))) (FP.i2d (own_m p0)))), .second, .val (.double (FP.ddiv (FP.i2d (own_r p2 (own_m p0))) (FP.i2d (own_m p0)))), .second, iv (own_kk p3), iv (own_pp p3), .unset, .unset] [(.int ((((own_m p2)).toInt64 - (((own_m p2)).toInt64 / (((own_pp p3)).toInt64 + (1 : Int64))) * (((own_pp p3)).toInt64 + (1 : Int64)))).toInt32)]) _
            skip
            show oS p e below T383 (mkF m 344 #[iv p0, iv p1, iv p2, iv p3, iv p0, rv b268, iv (own_m p0), iv ((own_r p1 (own_m p0))), iv ((own_r p2 (own_m p0))), rv b362, rv b371, .val (.double (FP.ddiv (FP.i2d (own_r p1 (own_m p0))) (FP.i2d (own_m p0)))), .second, .val (.double (FP.ddiv (FP.i2d (own_r p2 (own_m p0))) (FP.i2d (own_m p0)))), .second, iv (own_kk p3), iv (own_pp p3), .unset, .unset] [(.int (own_r p2 (own_pp p3)))]) _
            refine XS.istore X383.here hx rfl (hb hby at_344) rfl (l' := #[iv p0, iv p1, iv p2, iv p3, iv p0, rv b268, iv (own_m p0), iv ((own_r p1 (own_m p0))), iv ((own_r p2 (own_m p0))), rv b362, rv b371, .val (.double (FP.ddiv (FP.i2d (own_r p1 (own_m p0))) (FP.i2d (own_m p0)))), .second, .val (.double (FP.ddiv (FP.i2d (own_r p2 (own_m p0))) (FP.i2d (own_m p0)))), .second, iv (own_kk p3), iv (own_pp p3), iv ((own_r p2 (own_pp p3))), .unset]) rfl ?_
            refine XS.iload X383.here hx rfl (hb hby at_346) rfl ?_
            refine XS.iload X383.here hx rfl (hb hby at_348) rfl ?_
            refine st409 _ ?_
            refine st415 _ ?_
            show oS p e below T415 (mkF m 356 #[iv p0, iv p1, iv p2, iv p3, iv p0, rv b268, iv (own_m p0), iv ((own_r p1 (own_m p0))), iv ((own_r p2 (own_m p0))), rv b362, rv b371, .val (.double (FP.ddiv (FP.i2d (own_r p1 (own_m p0))) (FP.i2d (own_m p0)))), .second, .val (.double (FP.ddiv (FP.i2d (own_r p2 (own_m p0))) (FP.i2d (own_m p0)))), .second, iv (own_kk p3), iv (own_pp p3), iv ((own_r p2 (own_pp p3))), .unset] [(.ref b415)]) _
            refine XS.astore X415.here hx rfl (hb hby at_356) rfl rfl (l' := #[iv p0, iv p1, iv p2, iv p3, iv p0, rv b268, iv (own_m p0), iv ((own_r p1 (own_m p0))), iv ((own_r p2 (own_m p0))), rv b362, rv b371, .val (.double (FP.ddiv (FP.i2d (own_r p1 (own_m p0))) (FP.i2d (own_m p0)))), .second, .val (.double (FP.ddiv (FP.i2d (own_r p2 (own_m p0))) (FP.i2d (own_m p0)))), .second, iv (own_kk p3), iv (own_pp p3), iv ((own_r p2 (own_pp p3))), rv b415]) rfl ?_
            refine XS.aload X415.here hx rfl (hb hby at_358) rfl rfl ?_
            refine st423 _ ?_
            refine XS.ifYes X423.here hx rfl (pc0 := 363) (pc' := 368) rfl (hb hby at_363) rfl (XT.i0_ne_t (by decide)) (by decide) (by decide) ?_
            refine XS.aload X423.here hx rfl (hb hby at_368) rfl rfl ?_
            refine st424 _ ?_
            refine XS.iload X424.here hx rfl (hb hby at_373) rfl ?_
            refine XS.i2dS X424.here hx rfl (hb hby at_375) rfl rfl ?_
            refine XS.dmulS X424.here hx rfl (hb hby at_376) rfl (Jvm.Free.Fl.val64_no.mpr (Own.own_nnI (own_bk p2 p3))) rfl ?_
            refine XS.iload X424.here hx rfl (hb hby at_377) rfl ?_
            show oS p e below T424 (mkF m 379 #[iv p0, iv p1, iv p2, iv p3, iv p0, rv b268, iv (own_m p0), iv ((own_r p1 (own_m p0))), iv ((own_r p2 (own_m p0))), rv b362, rv b371, .val (.double (FP.ddiv (FP.i2d (own_r p1 (own_m p0))) (FP.i2d (own_m p0)))), .second, .val (.double (FP.ddiv (FP.i2d (own_r p2 (own_m p0))) (FP.i2d (own_m p0)))), .second, iv (own_kk p3), iv (own_pp p3), iv ((own_r p2 (own_pp p3))), rv b415] [(.int (own_r p2 (own_pp p3))), (.double (FP.dmul (FP.ddiv (FP.i2d (own_r p2 (own_pp p3))) (FP.i2d (own_pp p3))) (FP.i2d (own_pp p3))))]) _
            refine XS.i2dS X424.here hx rfl (hb hby at_379) rfl rfl ?_
            refine XS.dcmpS X424.here hx rfl (hb hby at_380) rfl rfl ?_
            refine XS.ifNo X424.here hx rfl (hb hby at_381) rfl (XT.i0_ne_f (own_e0 (Own.own_cmpI (own_bk p2 p3) (Jvm.FP.Core.i2d_int _)))) ?_
            refine XT.iconstV X424.here hx rfl (1 : Int32) (hb hby at_384) (by decide) ?_
            refine XS.goto X424.here hx rfl (pc0 := 385) (pc' := 389) rfl (hb hby at_385) (by decide) (by decide) ?_
            exact kz)
          obtain ⟨fs, hr, hrun, hended, hW, hsame⟩ := X424.leave (v := some (.int 1)) (fun h => by rw [Bd.returns] at h; cases h)
          refine ⟨_, _, pre0 _ (S425 _ ?_), hrun, hended, _, _, rfl, ?_, ⟨_, rfl⟩, hW, hsame.mono (by decide) (by decide)⟩
          · exact retN X424 hx (t := .boolean) Bd.returns (by simp) (hb hby at_389) hr
          · show Qrm0 Z p0 p1 p2 p3 aE h0 n0 _ T424.heap _
            rw [e424]
            exact ⟨rfl, N424⟩
        · obtain ⟨_, T426, Lc426, X426, hQ426, st426⟩ := own_callS (W := 0) (y := mN7) X383 hx hZ hown (hw _ (own_w 0 rfl)) (hw _ (own_w 1 rfl)) (hw _ (own_w 2 rfl)) (hw _ (own_w 3 rfl)) (by decide) (rmMk l Z av0 hw [] ((2 : Int32) * (own_m p0)) ((2 : Int32) * (own_r p1 (own_m p0))) T371.heap n0 Zk371 ) (by decide) (by decide) (g := (mkF m 289 #[iv p0, iv p1, iv p2, iv p3, iv p0, rv b268, iv (own_m p0), iv ((own_r p1 (own_m p0))), iv ((own_r p2 (own_m p0))), rv b362, rv b371, .val (.double (FP.ddiv (FP.i2d (own_r p1 (own_m p0))) (FP.i2d (own_m p0)))), .second, .val (.double (FP.ddiv (FP.i2d (own_r p2 (own_m p0))) (FP.i2d (own_m p0)))), .second, .unset, .unset, .unset, .unset] [(.int ((2 : Int32) * (own_r p1 (own_m p0)))), (.int ((2 : Int32) * (own_m p0)))])) rfl (by rw [hml]; rfl) (argsL := [(.int ((2 : Int32) * (own_m p0))), (.int ((2 : Int32) * (own_r p1 (own_m p0))))]) (rest := []) (lenOf pd__II_Lcom_example_graftwork_graftwork_simulate_Summary_ rfl) rfl (hb hby at_289) rfl e383 (by decide : 6 + 1 ≤ _) (by decide : 30 + 8 ≤ _)
          obtain ⟨b426, rfl, N426q, gb426, K426, E426, Fa426, Fc426⟩ := hQ426
          have N426 := Fr.app N383 N426q
          have e426 : T426.heap = T426.heap := rfl
          have f427 := (f372.keep K371)
          have ne_aE_b426 : aE ≠ b426 := Nat.ne_of_lt (Nat.lt_of_lt_of_le f427.lt gb426)
          have f428 := (f373.keep K371)
          have ne_b267_b426 : b267 ≠ b426 := Nat.ne_of_lt (Nat.lt_of_lt_of_le f428.lt gb426)
          have f429 := (f374.keep K371)
          have ne_b268_b426 : b268 ≠ b426 := Nat.ne_of_lt (Nat.lt_of_lt_of_le f429.lt gb426)
          have f430 := (f375.keep K371)
          have ne_b359_b426 : b359 ≠ b426 := Nat.ne_of_lt (Nat.lt_of_lt_of_le f430.lt gb426)
          have ne_b362_b426 : b362 ≠ b426 := Nat.ne_of_lt (Nat.lt_of_lt_of_le f379.lt gb426)
          have f431 := (E366.keep K371)
          have ne_b366_b426 : b366 ≠ b426 := Nat.ne_of_lt (Nat.lt_of_lt_of_le f431.lt gb426)
          have ne_b371_b426 : b371 ≠ b426 := Nat.ne_of_lt (Nat.lt_of_lt_of_le E371.lt gb426)
          have ge_b426 : n0 ≤ b426 := Nat.le_trans Zk371 gb426
          have sz_b426 : h0.size ≤ b426 := Nat.le_trans Kk371.1 gb426
          have Zk426 : n0 ≤ T426.heap.size := Nat.le_trans Zk371 K426.1
          have Kk426 : Keep h0 T426.heap [] := Kk371.trans K426 all0
          obtain ⟨_, T432, Lc432, X432, hQ432, st432⟩ := own_virtual (W := 0) (y := mN8) (z := mN8) X426 hx hZ hown (hw _ (own_w 34 rfl)) (hw _ (own_w 35 rfl)) (notFace_of_selects (args := #[]) (mvT hZ (hw _ (own_w 37 rfl)))) (hw _ (own_w 37 rfl)) (hw _ (own_w 36 rfl)) (hw _ (own_w 38 rfl)) (hw _ (own_w 6 rfl)) (by decide) (rmRatP l Z av0 hw [] b426 ((2 : Int32) * (own_m p0)) ((2 : Int32) * (own_r p1 (own_m p0))) T426.heap n0 Zk426 Fa426 Fc426 (own_2nz (own_mpos hc52_272) hc278_408)) (by decide) (by decide) E426 (g := (mkF m 292 #[iv p0, iv p1, iv p2, iv p3, iv p0, rv b268, iv (own_m p0), iv ((own_r p1 (own_m p0))), iv ((own_r p2 (own_m p0))), rv b362, rv b371, .val (.double (FP.ddiv (FP.i2d (own_r p1 (own_m p0))) (FP.i2d (own_m p0)))), .second, .val (.double (FP.ddiv (FP.i2d (own_r p2 (own_m p0))) (FP.i2d (own_m p0)))), .second, .unset, .unset, .unset, .unset] [(.ref b426)])) rfl (by rw [hml]; rfl) (argsL := []) (rest := []) (lenOf pd__Ljava_util_OptionalDouble_ rfl) rfl (hb hby at_292) rfl e426 (by decide : 7 + 1 ≤ _) (by decide : 38 + 2 ≤ _)
          obtain ⟨b432, rfl, N432q, gb432, K432, E432, I432, V432⟩ := hQ432
          have N432 := Fr.app N426 N432q
          have e432 : T432.heap = T432.heap := rfl
          have f433 := (f427.keep K426)
          have ne_aE_b432 : aE ≠ b432 := Nat.ne_of_lt (Nat.lt_of_lt_of_le f433.lt gb432)
          have f434 := (f428.keep K426)
          have ne_b267_b432 : b267 ≠ b432 := Nat.ne_of_lt (Nat.lt_of_lt_of_le f434.lt gb432)
          have f435 := (f429.keep K426)
          have ne_b268_b432 : b268 ≠ b432 := Nat.ne_of_lt (Nat.lt_of_lt_of_le f435.lt gb432)
          have f436 := (f430.keep K426)
          have ne_b359_b432 : b359 ≠ b432 := Nat.ne_of_lt (Nat.lt_of_lt_of_le f436.lt gb432)
          have f437 := (f379.keep K426)
          have ne_b362_b432 : b362 ≠ b432 := Nat.ne_of_lt (Nat.lt_of_lt_of_le f437.lt gb432)
          have f438 := (f431.keep K426)
          have ne_b366_b432 : b366 ≠ b432 := Nat.ne_of_lt (Nat.lt_of_lt_of_le f438.lt gb432)
          have f439 := (E371.keep K426)
          have ne_b371_b432 : b371 ≠ b432 := Nat.ne_of_lt (Nat.lt_of_lt_of_le f439.lt gb432)
          have ne_b426_b432 : b426 ≠ b432 := Nat.ne_of_lt (Nat.lt_of_lt_of_le E426.lt gb432)
          have ge_b432 : n0 ≤ b432 := Nat.le_trans Zk426 gb432
          have sz_b432 : h0.size ≤ b432 := Nat.le_trans Kk426.1 gb432
          have Zk432 : n0 ≤ T432.heap.size := Nat.le_trans Zk426 K432.1
          have Kk432 : Keep h0 T432.heap [] := Kk426.trans K432 all0
          obtain ⟨_, T440, Lc440, X440, hQ440, st440⟩ := own_virtual (W := 0) (y := mN3) (z := mN3) X432 hx hZ hown (hw _ (own_w 44 rfl)) (hw _ (own_w 45 rfl)) (notFace_of_selects (args := #[]) (mvT hZ (hw _ (own_w 47 rfl)))) (hw _ (own_w 47 rfl)) (hw _ (own_w 46 rfl)) (hw _ (own_w 48 rfl)) (hw _ (own_w 41 rfl)) (by decide) (rmIs1 l Z av0 hw [] b432 T432.heap n0 Zk432 I432) (by decide) (by decide) E432 (g := (mkF m 299 #[iv p0, iv p1, iv p2, iv p3, iv p0, rv b268, iv (own_m p0), iv ((own_r p1 (own_m p0))), iv ((own_r p2 (own_m p0))), rv b362, rv b371, .val (.double (FP.ddiv (FP.i2d (own_r p1 (own_m p0))) (FP.i2d (own_m p0)))), .second, .val (.double (FP.ddiv (FP.i2d (own_r p2 (own_m p0))) (FP.i2d (own_m p0)))), .second, rv b432, .unset, .unset, .unset] [(.ref b432)])) rfl (by rw [hml]; rfl) (argsL := []) (rest := []) (lenOf pd__Z rfl) rfl (hb hby at_299) rfl e432 (by decide : 8 + 0 ≤ _) (by decide : 40 + 0 ≤ _)
          obtain ⟨rfl, N440q, hh440⟩ := hQ440
          have N440 := Fr.app N432 N440q
          have e440 : T440.heap = T432.heap := hh440
          obtain ⟨_, T441, Lc441, X441, hQ441, st441⟩ := own_virtual (W := 0) (y := mN4) (z := mN4) X440 hx hZ hown (hw _ (own_w 64 rfl)) (hw _ (own_w 65 rfl)) (notFace_of_selects (args := #[]) (mvT hZ (hw _ (own_w 67 rfl)))) (hw _ (own_w 67 rfl)) (hw _ (own_w 66 rfl)) (hw _ (own_w 68 rfl)) (hw _ (own_w 41 rfl)) (by decide) (rmGet l Z av0 hw [] b432 (FP.ddiv (FP.i2d ((2 : Int32) * (own_r p1 (own_m p0)))) (FP.i2d ((2 : Int32) * (own_m p0)))) T432.heap n0 Zk432 I432 V432) (by decide) (by decide) E432 (g := (mkF m 307 #[iv p0, iv p1, iv p2, iv p3, iv p0, rv b268, iv (own_m p0), iv ((own_r p1 (own_m p0))), iv ((own_r p2 (own_m p0))), rv b362, rv b371, .val (.double (FP.ddiv (FP.i2d (own_r p1 (own_m p0))) (FP.i2d (own_m p0)))), .second, .val (.double (FP.ddiv (FP.i2d (own_r p2 (own_m p0))) (FP.i2d (own_m p0)))), .second, rv b432, .unset, .unset, .unset] [(.ref b432)])) rfl (by rw [hml]; rfl) (argsL := []) (rest := []) (lenOf pd__D rfl) rfl (hb hby at_307) rfl e440 (by decide : 8 + 0 ≤ _) (by decide : 40 + 0 ≤ _)
          obtain ⟨rfl, N441q, hh441⟩ := hQ441
          have N441 := Fr.app N440 N441q
          have e441 : T441.heap = T432.heap := hh441
          obtain ⟨_, T442, Lc442, X442, hQ442, st442⟩ := own_callS (W := 0) (y := mN7) X441 hx hZ hown (hw _ (own_w 0 rfl)) (hw _ (own_w 1 rfl)) (hw _ (own_w 2 rfl)) (hw _ (own_w 3 rfl)) (by decide) (rmMk l Z av0 hw [] (own_pp p3) (own_r p2 (own_pp p3)) T432.heap n0 Zk432 ) (by decide) (by decide) (g := (mkF m 350 #[iv p0, iv p1, iv p2, iv p3, iv p0, rv b268, iv (own_m p0), iv ((own_r p1 (own_m p0))), iv ((own_r p2 (own_m p0))), rv b362, rv b371, .val (.double (FP.ddiv (FP.i2d (own_r p1 (own_m p0))) (FP.i2d (own_m p0)))), .second, .val (.double (FP.ddiv (FP.i2d (own_r p2 (own_m p0))) (FP.i2d (own_m p0)))), .second, iv (own_kk p3), iv (own_pp p3), iv ((own_r p2 (own_pp p3))), .unset] [(.int (own_r p2 (own_pp p3))), (.int (own_pp p3))])) rfl (by rw [hml]; rfl) (argsL := [(.int (own_pp p3)), (.int (own_r p2 (own_pp p3)))]) (rest := []) (lenOf pd__II_Lcom_example_graftwork_graftwork_simulate_Summary_ rfl) rfl (hb hby at_350) rfl e441 (by decide : 8 + 1 ≤ _) (by decide : 40 + 8 ≤ _)
          obtain ⟨b442, rfl, N442q, gb442, K442, E442, Fa442, Fc442⟩ := hQ442
          have N442 := Fr.app N441 N442q
          have e442 : T442.heap = T442.heap := rfl
          have f443 := (f433.keep K432)
          have ne_aE_b442 : aE ≠ b442 := Nat.ne_of_lt (Nat.lt_of_lt_of_le f443.lt gb442)
          have f444 := (f434.keep K432)
          have ne_b267_b442 : b267 ≠ b442 := Nat.ne_of_lt (Nat.lt_of_lt_of_le f444.lt gb442)
          have f445 := (f435.keep K432)
          have ne_b268_b442 : b268 ≠ b442 := Nat.ne_of_lt (Nat.lt_of_lt_of_le f445.lt gb442)
          have f446 := (f436.keep K432)
          have ne_b359_b442 : b359 ≠ b442 := Nat.ne_of_lt (Nat.lt_of_lt_of_le f446.lt gb442)
          have f447 := (f437.keep K432)
          have ne_b362_b442 : b362 ≠ b442 := Nat.ne_of_lt (Nat.lt_of_lt_of_le f447.lt gb442)
          have f448 := (f438.keep K432)
          have ne_b366_b442 : b366 ≠ b442 := Nat.ne_of_lt (Nat.lt_of_lt_of_le f448.lt gb442)
          have f449 := (f439.keep K432)
          have ne_b371_b442 : b371 ≠ b442 := Nat.ne_of_lt (Nat.lt_of_lt_of_le f449.lt gb442)
          have f450 := (E426.keep K432)
          have ne_b426_b442 : b426 ≠ b442 := Nat.ne_of_lt (Nat.lt_of_lt_of_le f450.lt gb442)
          have ne_b432_b442 : b432 ≠ b442 := Nat.ne_of_lt (Nat.lt_of_lt_of_le E432.lt gb442)
          have ge_b442 : n0 ≤ b442 := Nat.le_trans Zk432 gb442
          have sz_b442 : h0.size ≤ b442 := Nat.le_trans Kk432.1 gb442
          have Zk442 : n0 ≤ T442.heap.size := Nat.le_trans Zk432 K442.1
          have Kk442 : Keep h0 T442.heap [] := Kk432.trans K442 all0
          obtain ⟨_, T451, Lc451, X451, hQ451, st451⟩ := own_virtual (W := 0) (y := mN8) (z := mN8) X442 hx hZ hown (hw _ (own_w 34 rfl)) (hw _ (own_w 35 rfl)) (notFace_of_selects (args := #[]) (mvT hZ (hw _ (own_w 37 rfl)))) (hw _ (own_w 37 rfl)) (hw _ (own_w 36 rfl)) (hw _ (own_w 38 rfl)) (hw _ (own_w 6 rfl)) (by decide) (rmRatP l Z av0 hw [] b442 (own_pp p3) (own_r p2 (own_pp p3)) T442.heap n0 Zk442 Fa442 Fc442 (own_pnz (own_ppos p3))) (by decide) (by decide) E442 (g := (mkF m 353 #[iv p0, iv p1, iv p2, iv p3, iv p0, rv b268, iv (own_m p0), iv ((own_r p1 (own_m p0))), iv ((own_r p2 (own_m p0))), rv b362, rv b371, .val (.double (FP.ddiv (FP.i2d (own_r p1 (own_m p0))) (FP.i2d (own_m p0)))), .second, .val (.double (FP.ddiv (FP.i2d (own_r p2 (own_m p0))) (FP.i2d (own_m p0)))), .second, iv (own_kk p3), iv (own_pp p3), iv ((own_r p2 (own_pp p3))), .unset] [(.ref b442)])) rfl (by rw [hml]; rfl) (argsL := []) (rest := []) (lenOf pd__Ljava_util_OptionalDouble_ rfl) rfl (hb hby at_353) rfl e442 (by decide : 9 + 1 ≤ _) (by decide : 48 + 2 ≤ _)
          obtain ⟨b451, rfl, N451q, gb451, K451, E451, I451, V451⟩ := hQ451
          have N451 := Fr.app N442 N451q
          have e451 : T451.heap = T451.heap := rfl
          have f452 := (f443.keep K442)
          have ne_aE_b451 : aE ≠ b451 := Nat.ne_of_lt (Nat.lt_of_lt_of_le f452.lt gb451)
          have f453 := (f444.keep K442)
          have ne_b267_b451 : b267 ≠ b451 := Nat.ne_of_lt (Nat.lt_of_lt_of_le f453.lt gb451)
          have f454 := (f445.keep K442)
          have ne_b268_b451 : b268 ≠ b451 := Nat.ne_of_lt (Nat.lt_of_lt_of_le f454.lt gb451)
          have f455 := (f446.keep K442)
          have ne_b359_b451 : b359 ≠ b451 := Nat.ne_of_lt (Nat.lt_of_lt_of_le f455.lt gb451)
          have f456 := (f447.keep K442)
          have ne_b362_b451 : b362 ≠ b451 := Nat.ne_of_lt (Nat.lt_of_lt_of_le f456.lt gb451)
          have f457 := (f448.keep K442)
          have ne_b366_b451 : b366 ≠ b451 := Nat.ne_of_lt (Nat.lt_of_lt_of_le f457.lt gb451)
          have f458 := (f449.keep K442)
          have ne_b371_b451 : b371 ≠ b451 := Nat.ne_of_lt (Nat.lt_of_lt_of_le f458.lt gb451)
          have f459 := (f450.keep K442)
          have ne_b426_b451 : b426 ≠ b451 := Nat.ne_of_lt (Nat.lt_of_lt_of_le f459.lt gb451)
          have f460 := (E432.keep K442)
          have ne_b432_b451 : b432 ≠ b451 := Nat.ne_of_lt (Nat.lt_of_lt_of_le f460.lt gb451)
          have ne_b442_b451 : b442 ≠ b451 := Nat.ne_of_lt (Nat.lt_of_lt_of_le E442.lt gb451)
          have ge_b451 : n0 ≤ b451 := Nat.le_trans Zk442 gb451
          have sz_b451 : h0.size ≤ b451 := Nat.le_trans Kk442.1 gb451
          have Zk451 : n0 ≤ T451.heap.size := Nat.le_trans Zk442 K451.1
          have Kk451 : Keep h0 T451.heap [] := Kk442.trans K451 all0
          obtain ⟨_, T461, Lc461, X461, hQ461, st461⟩ := own_virtual (W := 0) (y := mN3) (z := mN3) X451 hx hZ hown (hw _ (own_w 44 rfl)) (hw _ (own_w 45 rfl)) (notFace_of_selects (args := #[]) (mvT hZ (hw _ (own_w 47 rfl)))) (hw _ (own_w 47 rfl)) (hw _ (own_w 46 rfl)) (hw _ (own_w 48 rfl)) (hw _ (own_w 41 rfl)) (by decide) (rmIs1 l Z av0 hw [] b451 T451.heap n0 Zk451 I451) (by decide) (by decide) E451 (g := (mkF m 360 #[iv p0, iv p1, iv p2, iv p3, iv p0, rv b268, iv (own_m p0), iv ((own_r p1 (own_m p0))), iv ((own_r p2 (own_m p0))), rv b362, rv b371, .val (.double (FP.ddiv (FP.i2d (own_r p1 (own_m p0))) (FP.i2d (own_m p0)))), .second, .val (.double (FP.ddiv (FP.i2d (own_r p2 (own_m p0))) (FP.i2d (own_m p0)))), .second, iv (own_kk p3), iv (own_pp p3), iv ((own_r p2 (own_pp p3))), rv b451] [(.ref b451)])) rfl (by rw [hml]; rfl) (argsL := []) (rest := []) (lenOf pd__Z rfl) rfl (hb hby at_360) rfl e451 (by decide : 10 + 0 ≤ _) (by decide : 50 + 0 ≤ _)
          obtain ⟨rfl, N461q, hh461⟩ := hQ461
          have N461 := Fr.app N451 N461q
          have e461 : T461.heap = T451.heap := hh461
          obtain ⟨_, T462, Lc462, X462, hQ462, st462⟩ := own_virtual (W := 0) (y := mN4) (z := mN4) X461 hx hZ hown (hw _ (own_w 64 rfl)) (hw _ (own_w 65 rfl)) (notFace_of_selects (args := #[]) (mvT hZ (hw _ (own_w 67 rfl)))) (hw _ (own_w 67 rfl)) (hw _ (own_w 66 rfl)) (hw _ (own_w 68 rfl)) (hw _ (own_w 41 rfl)) (by decide) (rmGet l Z av0 hw [] b451 (FP.ddiv (FP.i2d (own_r p2 (own_pp p3))) (FP.i2d (own_pp p3))) T451.heap n0 Zk451 I451 V451) (by decide) (by decide) E451 (g := (mkF m 370 #[iv p0, iv p1, iv p2, iv p3, iv p0, rv b268, iv (own_m p0), iv ((own_r p1 (own_m p0))), iv ((own_r p2 (own_m p0))), rv b362, rv b371, .val (.double (FP.ddiv (FP.i2d (own_r p1 (own_m p0))) (FP.i2d (own_m p0)))), .second, .val (.double (FP.ddiv (FP.i2d (own_r p2 (own_m p0))) (FP.i2d (own_m p0)))), .second, iv (own_kk p3), iv (own_pp p3), iv ((own_r p2 (own_pp p3))), rv b451] [(.ref b451)])) rfl (by rw [hml]; rfl) (argsL := []) (rest := []) (lenOf pd__D rfl) rfl (hb hby at_370) rfl e461 (by decide : 10 + 0 ≤ _) (by decide : 50 + 0 ≤ _)
          obtain ⟨rfl, N462q, hh462⟩ := hQ462
          have N462 := Fr.app N461 N462q
          have e462 : T462.heap = T451.heap := hh462
          have S463 : ∀ tz, oS p e below T462 (mkF m 389 #[iv p0, iv p1, iv p2, iv p3, iv p0, rv b268, iv (own_m p0), iv ((own_r p1 (own_m p0))), iv ((own_r p2 (own_m p0))), rv b362, rv b371, .val (.double (FP.ddiv (FP.i2d (own_r p1 (own_m p0))) (FP.i2d (own_m p0)))), .second, .val (.double (FP.ddiv (FP.i2d (own_r p2 (own_m p0))) (FP.i2d (own_m p0)))), .second, iv (own_kk p3), iv (own_pp p3), iv ((own_r p2 (own_pp p3))), rv b451] [(.int 1)]) tz → oS p e below s₁ (mkF m 0 #[iv p0, iv p1, iv p2, iv p3, .unset, .unset, .unset, .unset, .unset, .unset, .unset, .unset, .unset, .unset, .unset, .unset, .unset, .unset, .unset] []) tz := fun tz kz => S407 tz (by
            show oS p e below T383 (mkF m 278 #[iv p0, iv p1, iv p2, iv p3, iv p0, rv b268, iv (own_m p0), iv ((own_r p1 (own_m p0))), iv ((own_r p2 (own_m p0))), rv b362, rv b371, .val (.double (FP.ddiv (FP.i2d (own_r p1 (own_m p0))) (FP.i2d (own_m p0)))), .second, .val (.double (FP.ddiv (FP.i2d (own_r p2 (own_m p0))) (FP.i2d (own_m p0)))), .second, .unset, .unset, .unset, .unset] [(.int 1073741823), (.int (own_m p0))]) _
            refine XS.icmpNo X383.here hx rfl (hb hby at_278) rfl (XT.ii_gt_f hc278_408) ?_
            refine XT.iconstV X383.here hx rfl (2 : Int32) (hb hby at_281) (by decide) ?_
            refine XS.iload X383.here hx rfl (hb hby at_282) rfl ?_
            refine XS.imul X383.here hx rfl (hb hby at_284) rfl ?_
            refine XT.iconstV X383.here hx rfl (2 : Int32) (hb hby at_285) (by decide) ?_
            refine XS.iload X383.here hx rfl (hb hby at_286) rfl ?_
            refine XS.imul X383.here hx rfl (hb hby at_288) rfl ?_
            refine st426 _ ?_
            refine st432 _ ?_
            refine XS.astore X432.here hx rfl (hb hby at_295) rfl rfl (l' := #[iv p0, iv p1, iv p2, iv p3, iv p0, rv b268, iv (own_m p0), iv ((own_r p1 (own_m p0))), iv ((own_r p2 (own_m p0))), rv b362, rv b371, .val (.double (FP.ddiv (FP.i2d (own_r p1 (own_m p0))) (FP.i2d (own_m p0)))), .second, .val (.double (FP.ddiv (FP.i2d (own_r p2 (own_m p0))) (FP.i2d (own_m p0)))), .second, rv b432, .unset, .unset, .unset]) rfl ?_
            show oS p e below T432 (mkF m 297 #[iv p0, iv p1, iv p2, iv p3, iv p0, rv b268, iv (own_m p0), iv ((own_r p1 (own_m p0))), iv ((own_r p2 (own_m p0))), rv b362, rv b371, .val (.double (FP.ddiv (FP.i2d (own_r p1 (own_m p0))) (FP.i2d (own_m p0)))), .second, .val (.double (FP.ddiv (FP.i2d (own_r p2 (own_m p0))) (FP.i2d (own_m p0)))), .second, rv b432, .unset, .unset, .unset] []) _
            refine XS.aload X432.here hx rfl (hb hby at_297) rfl rfl ?_
            refine st440 _ ?_
            refine XS.ifNo X440.here hx rfl (hb hby at_302) rfl (XT.i0_eq_f (by decide)) ?_
            refine XS.aload X440.here hx rfl (hb hby at_305) rfl rfl ?_
            refine st441 _ ?_
            refine XS.dload X441.here hx rfl (hb hby at_310) rfl ?_
            refine XS.dcmpS X441.here hx rfl (hb hby at_312) rfl rfl ?_
            refine XS.ifYes X441.here hx rfl (pc0 := 313) (pc' := 318) rfl (hb hby at_313) rfl (XT.i0_eq_t (own_t2 (own_rv p1 (own_mpos hc52_272)) (own_mpos hc52_272) hc278_408)) (by decide) (by decide) ?_
            refine XS.iloadN X441.here hx rfl (hb hby at_318) rfl ?_
            refine XT.iconstV X441.here hx rfl (1 : Int32) (hb hby at_319) (by decide) ?_
            show oS p e below T441 (mkF m 320 #[iv p0, iv p1, iv p2, iv p3, iv p0, rv b268, iv (own_m p0), iv ((own_r p1 (own_m p0))), iv ((own_r p2 (own_m p0))), rv b362, rv b371, .val (.double (FP.ddiv (FP.i2d (own_r p1 (own_m p0))) (FP.i2d (own_m p0)))), .second, .val (.double (FP.ddiv (FP.i2d (own_r p2 (own_m p0))) (FP.i2d (own_m p0)))), .second, rv b432, .unset, .unset, .unset] [(.int 1), (.int p3)]) _
            refine XT.iushr X441.here hx rfl (hb hby at_320) rfl ?_
            refine XT.bipushV X441.here hx rfl (31 : Int32) (hb hby at_321) (by decide) ?_
            refine XS.irem X441.here hx rfl (hb hby at_323) rfl (by decide) ?_
            show oS p e below T441 (mkF m 324 #[iv p0, iv p1, iv p2, iv p3, iv p0, rv b268, iv (own_m p0), iv ((own_r p1 (own_m p0))), iv ((own_r p2 (own_m p0))), rv b362, rv b371, .val (.double (FP.ddiv (FP.i2d (own_r p1 (own_m p0))) (FP.i2d (own_m p0)))), .second, .val (.double (FP.ddiv (FP.i2d (own_r p2 (own_m p0))) (FP.i2d (own_m p0)))), .second, rv b432, .unset, .unset, .unset] [(.int ((XT.ushr p3 (1 : Int32)) - ((XT.ushr p3 (1 : Int32)) / (31 : Int32)) * (31 : Int32)))]) _
            skip
            show oS p e below T441 (mkF m 324 #[iv p0, iv p1, iv p2, iv p3, iv p0, rv b268, iv (own_m p0), iv ((own_r p1 (own_m p0))), iv ((own_r p2 (own_m p0))), rv b362, rv b371, .val (.double (FP.ddiv (FP.i2d (own_r p1 (own_m p0))) (FP.i2d (own_m p0)))), .second, .val (.double (FP.ddiv (FP.i2d (own_r p2 (own_m p0))) (FP.i2d (own_m p0)))), .second, rv b432, .unset, .unset, .unset] [(.int (own_kk p3))]) _
            refine XS.istore X441.here hx rfl (hb hby at_324) rfl (l' := #[iv p0, iv p1, iv p2, iv p3, iv p0, rv b268, iv (own_m p0), iv ((own_r p1 (own_m p0))), iv ((own_r p2 (own_m p0))), rv b362, rv b371, .val (.double (FP.ddiv (FP.i2d (own_r p1 (own_m p0))) (FP.i2d (own_m p0)))), .second, .val (.double (FP.ddiv (FP.i2d (own_r p2 (own_m p0))) (FP.i2d (own_m p0)))), .second, iv (own_kk p3), .unset, .unset, .unset]) rfl ?_
            refine XT.iconstV X441.here hx rfl (1 : Int32) (hb hby at_326) (by decide) ?_
            refine XS.iload X441.here hx rfl (hb hby at_327) rfl ?_
            refine XT.ishl X441.here hx rfl (hb hby at_329) rfl ?_
            show oS p e below T441 (mkF m 330 #[iv p0, iv p1, iv p2, iv p3, iv p0, rv b268, iv (own_m p0), iv ((own_r p1 (own_m p0))), iv ((own_r p2 (own_m p0))), rv b362, rv b371, .val (.double (FP.ddiv (FP.i2d (own_r p1 (own_m p0))) (FP.i2d (own_m p0)))), .second, .val (.double (FP.ddiv (FP.i2d (own_r p2 (own_m p0))) (FP.i2d (own_m p0)))), .second, iv (own_kk p3), .unset, .unset, .unset] [(.int ((1 : Int32) <<< ((own_kk p3) &&& 31)))]) _
            skip
            show oS p e below T441 (mkF m 330 #[iv p0, iv p1, iv p2, iv p3, iv p0, rv b268, iv (own_m p0), iv ((own_r p1 (own_m p0))), iv ((own_r p2 (own_m p0))), rv b362, rv b371, .val (.double (FP.ddiv (FP.i2d (own_r p1 (own_m p0))) (FP.i2d (own_m p0)))), .second, .val (.double (FP.ddiv (FP.i2d (own_r p2 (own_m p0))) (FP.i2d (own_m p0)))), .second, iv (own_kk p3), .unset, .unset, .unset] [(.int (own_pp p3))]) _
            refine XS.istore X441.here hx rfl (hb hby at_330) rfl (l' := #[iv p0, iv p1, iv p2, iv p3, iv p0, rv b268, iv (own_m p0), iv ((own_r p1 (own_m p0))), iv ((own_r p2 (own_m p0))), rv b362, rv b371, .val (.double (FP.ddiv (FP.i2d (own_r p1 (own_m p0))) (FP.i2d (own_m p0)))), .second, .val (.double (FP.ddiv (FP.i2d (own_r p2 (own_m p0))) (FP.i2d (own_m p0)))), .second, iv (own_kk p3), iv (own_pp p3), .unset, .unset]) rfl ?_
            show oS p e below T441 (mkF m 332 #[iv p0, iv p1, iv p2, iv p3, iv p0, rv b268, iv (own_m p0), iv ((own_r p1 (own_m p0))), iv ((own_r p2 (own_m p0))), rv b362, rv b371, .val (.double (FP.ddiv (FP.i2d (own_r p1 (own_m p0))) (FP.i2d (own_m p0)))), .second, .val (.double (FP.ddiv (FP.i2d (own_r p2 (own_m p0))) (FP.i2d (own_m p0)))), .second, iv (own_kk p3), iv (own_pp p3), .unset, .unset] []) _
            refine XS.iloadN X441.here hx rfl (hb hby at_332) rfl ?_
            refine X441.ldcI hx hown (mvT hZ (hw _ (own_w 51 rfl))) rfl (hb hby at_333) ?_
            refine XS.iand X441.here hx rfl (hb hby at_335) rfl ?_
            show oS p e below T441 (mkF m 336 #[iv p0, iv p1, iv p2, iv p3, iv p0, rv b268, iv (own_m p0), iv ((own_r p1 (own_m p0))), iv ((own_r p2 (own_m p0))), rv b362, rv b371, .val (.double (FP.ddiv (FP.i2d (own_r p1 (own_m p0))) (FP.i2d (own_m p0)))), .second, .val (.double (FP.ddiv (FP.i2d (own_r p2 (own_m p0))) (FP.i2d (own_m p0)))), .second, iv (own_kk p3), iv (own_pp p3), .unset, .unset] [(.int (p2 &&& (2147483647 : Int32)))]) _
            skip
            show oS p e below T441 (mkF m 336 #[iv p0, iv p1, iv p2, iv p3, iv p0, rv b268, iv (own_m p0), iv ((own_r p1 (own_m p0))), iv ((own_r p2 (own_m p0))), rv b362, rv b371, .val (.double (FP.ddiv (FP.i2d (own_r p1 (own_m p0))) (FP.i2d (own_m p0)))), .second, .val (.double (FP.ddiv (FP.i2d (own_r p2 (own_m p0))) (FP.i2d (own_m p0)))), .second, iv (own_kk p3), iv (own_pp p3), .unset, .unset] [(.int (own_m p2))]) _
            refine XT.i2l X441.here hx rfl (hb hby at_336) rfl ?_
            refine XS.iload X441.here hx rfl (hb hby at_337) rfl ?_
            refine XT.i2l X441.here hx rfl (hb hby at_339) rfl ?_
            refine XT.lconstV X441.here hx rfl (1 : Int64) (hb hby at_340) (by decide) ?_
            refine XT.ladd X441.here hx rfl (hb hby at_341) rfl ?_
            refine XT.lrem X441.here hx rfl (hb hby at_342) rfl (own_lnz (own_ppos p3)) ?_
            show oS p e below T441 (mkF m 343 #[iv p0, iv p1, iv p2, iv p3, iv p0, rv b268, iv (own_m p0), iv ((own_r p1 (own_m p0))), iv ((own_r p2 (own_m p0))), rv b362, rv b371, .val (.double (FP.ddiv (FP.i2d (own_r p1 (own_m p0))) (FP.i2d (own_m p0)))), .second, .val (.double (FP.ddiv (FP.i2d (own_r p2 (own_m p0))) (FP.i2d (own_m p0)))), .second, iv (own_kk p3), iv (own_pp p3), .unset, .unset] [(.long (((own_m p2)).toInt64 - (((own_m p2)).toInt64 / (((own_pp p3)).toInt64 + (1 : Int64))) * (((own_pp p3)).toInt64 + (1 : Int64))))]) _
            refine XT.l2i X441.here hx rfl (hb hby at_343) rfl ?_
            show oS p e below T441 (mkF m 344 #[iv p0, iv p1, iv p2, iv p3, iv p0, rv b268, iv (own_m p0), iv ((own_r p1 (own_m p0))), iv ((own_r p2 (own_m p0))), rv b362, rv b371, .val (.double (FP.ddiv (FP.i2d (own_r p1 (own_m p0))) (FP.i2d (own_m p0)))), .second, .val (.double (FP.ddiv (FP.i2d (own_r p2 (own_m p0))) (FP.i2d (own_m p0)))), .second, iv (own_kk p3), iv (own_pp p3), .unset, .unset] [(.int ((((own_m p2)).toInt64 - (((own_m p2)).toInt64 / (((own_pp p3)).toInt64 + (1 : Int64))) * (((own_pp p3)).toInt64 + (1 : Int64)))).toInt32)]) _
            skip
            show oS p e below T441 (mkF m 344 #[iv p0, iv p1, iv p2, iv p3, iv p0, rv b268, iv (own_m p0), iv ((own_r p1 (own_m p0))), iv ((own_r p2 (own_m p0))), rv b362, rv b371, .val (.double (FP.ddiv (FP.i2d (own_r p1 (own_m p0))) (FP.i2d (own_m p0)))), .second, .val (.double (FP.ddiv (FP.i2d (own_r p2 (own_m p0))) (FP.i2d (own_m p0)))), .second, iv (own_kk p3), iv (own_pp p3), .unset, .unset] [(.int (own_r p2 (own_pp p3)))]) _
            refine XS.istore X441.here hx rfl (hb hby at_344) rfl (l' := #[iv p0, iv p1, iv p2, iv p3, iv p0, rv b268, iv (own_m p0), iv ((own_r p1 (own_m p0))), iv ((own_r p2 (own_m p0))), rv b362, rv b371, .val (.double (FP.ddiv (FP.i2d (own_r p1 (own_m p0))) (FP.i2d (own_m p0)))), .second, .val (.double (FP.ddiv (FP.i2d (own_r p2 (own_m p0))) (FP.i2d (own_m p0)))), .second, iv (own_kk p3), iv (own_pp p3), iv ((own_r p2 (own_pp p3))), .unset]) rfl ?_
            refine XS.iload X441.here hx rfl (hb hby at_346) rfl ?_
            refine XS.iload X441.here hx rfl (hb hby at_348) rfl ?_
            refine st442 _ ?_
            refine st451 _ ?_
            refine XS.astore X451.here hx rfl (hb hby at_356) rfl rfl (l' := #[iv p0, iv p1, iv p2, iv p3, iv p0, rv b268, iv (own_m p0), iv ((own_r p1 (own_m p0))), iv ((own_r p2 (own_m p0))), rv b362, rv b371, .val (.double (FP.ddiv (FP.i2d (own_r p1 (own_m p0))) (FP.i2d (own_m p0)))), .second, .val (.double (FP.ddiv (FP.i2d (own_r p2 (own_m p0))) (FP.i2d (own_m p0)))), .second, iv (own_kk p3), iv (own_pp p3), iv ((own_r p2 (own_pp p3))), rv b451]) rfl ?_
            refine XS.aload X451.here hx rfl (hb hby at_358) rfl rfl ?_
            refine st461 _ ?_
            show oS p e below T461 (mkF m 363 #[iv p0, iv p1, iv p2, iv p3, iv p0, rv b268, iv (own_m p0), iv ((own_r p1 (own_m p0))), iv ((own_r p2 (own_m p0))), rv b362, rv b371, .val (.double (FP.ddiv (FP.i2d (own_r p1 (own_m p0))) (FP.i2d (own_m p0)))), .second, .val (.double (FP.ddiv (FP.i2d (own_r p2 (own_m p0))) (FP.i2d (own_m p0)))), .second, iv (own_kk p3), iv (own_pp p3), iv ((own_r p2 (own_pp p3))), rv b451] [(.int 1)]) _
            refine XS.ifYes X461.here hx rfl (pc0 := 363) (pc' := 368) rfl (hb hby at_363) rfl (XT.i0_ne_t (by decide)) (by decide) (by decide) ?_
            refine XS.aload X461.here hx rfl (hb hby at_368) rfl rfl ?_
            refine st462 _ ?_
            refine XS.iload X462.here hx rfl (hb hby at_373) rfl ?_
            refine XS.i2dS X462.here hx rfl (hb hby at_375) rfl rfl ?_
            refine XS.dmulS X462.here hx rfl (hb hby at_376) rfl (Jvm.Free.Fl.val64_no.mpr (Own.own_nnI (own_bk p2 p3))) rfl ?_
            refine XS.iload X462.here hx rfl (hb hby at_377) rfl ?_
            refine XS.i2dS X462.here hx rfl (hb hby at_379) rfl rfl ?_
            refine XS.dcmpS X462.here hx rfl (hb hby at_380) rfl rfl ?_
            refine XS.ifNo X462.here hx rfl (hb hby at_381) rfl (XT.i0_ne_f (own_e0 (Own.own_cmpI (own_bk p2 p3) (Jvm.FP.Core.i2d_int _)))) ?_
            show oS p e below T462 (mkF m 384 #[iv p0, iv p1, iv p2, iv p3, iv p0, rv b268, iv (own_m p0), iv ((own_r p1 (own_m p0))), iv ((own_r p2 (own_m p0))), rv b362, rv b371, .val (.double (FP.ddiv (FP.i2d (own_r p1 (own_m p0))) (FP.i2d (own_m p0)))), .second, .val (.double (FP.ddiv (FP.i2d (own_r p2 (own_m p0))) (FP.i2d (own_m p0)))), .second, iv (own_kk p3), iv (own_pp p3), iv ((own_r p2 (own_pp p3))), rv b451] []) _
            refine XT.iconstV X462.here hx rfl (1 : Int32) (hb hby at_384) (by decide) ?_
            refine XS.goto X462.here hx rfl (pc0 := 385) (pc' := 389) rfl (hb hby at_385) (by decide) (by decide) ?_
            exact kz)
          obtain ⟨fs, hr, hrun, hended, hW, hsame⟩ := X462.leave (v := some (.int 1)) (fun h => by rw [Bd.returns] at h; cases h)
          refine ⟨_, _, pre0 _ (S463 _ ?_), hrun, hended, _, _, rfl, ?_, ⟨_, rfl⟩, hW, hsame.mono (by decide) (by decide)⟩
          · exact retN X462 hx (t := .boolean) Bd.returns (by simp) (hb hby at_389) hr
          · show Qrm0 Z p0 p1 p2 p3 aE h0 n0 _ T462.heap _
            rw [e462]
            exact ⟨rfl, N462⟩
set_option maxRecDepth 65536 in
set_option maxHeartbeats 40000000 in
theorem comes_1 {Post : Tables → Env → Array Value → State → Outcome → State → Prop} (hpost : ∀ tb e args s v u, (limb_1_1.after args s (.returned v) u = true ∧ limb_1_2.after args s (.returned v) u = true ∧ True) → FrameEnd s (.returned v) u (Jvm.fieldLocs frame_1_writes args s ++ Jvm.arrayLocs frame_1_arrays args s ++ Jvm.staticLocs frame_1_statics s) 32 192 → Post tb e args s (.returned v) u) :
    ArmFor flags0 classFile x code maxLocals ret World_1 tables_1 room_1 Calls_1 rest_1 Pre_1 Post := by
  intro l hfl _ _ p e ha hc hk s m args below hf hA hF happ hP
  obtain ⟨hcalls, hrest, hpre⟩ := hP
  obtain ⟨-, -, -, hnamed, -, -, -, hat⟩ := (Spec.applies_iff hf).mp happ
  obtain ⟨hg, hn⟩ := and_e (Cond.before_iff.mp (show (Jvm.Cond.and given_1 narrow_1).before args s = true from hpre))
  obtain ⟨g0, r0⟩ := and_e hg
  obtain ⟨g1, r1⟩ := and_e r0
  obtain ⟨g2, r2⟩ := and_e r1
  obtain ⟨g3, r3⟩ := and_e r2
  obtain ⟨w0, w1, w2, w3, rfl⟩ : ∃ w0 w1 w2 w3 : Value, args = #[w0, w1, w2, w3] := by
    have hs : args.size = 4 := by simpa [Cond.value, given_1] using g0
    obtain ⟨L⟩ := args
    match L, hs with
    | [w0, w1, w2, w3], _ => exact ⟨w0, w1, w2, w3, rfl⟩
  have hw := fun d (hd : d ∈ tables_1) => atoms_spec (ws := Jvm.Cond.code x code maxLocals ret :: tables_1) hat d (List.mem_cons_of_mem _ hd)
  have hfit : Fit s := fun {y c} hc i hi => by
    obtain ⟨ha, rfl⟩ := Array.getElem?_eq_some_iff.mp hc
    have q := List.all_eq_true.mp ((Array.all_eq_true_iff_forall_mem.mp hF) _ (Array.getElem_mem ha)) i (List.mem_range.mpr hi)
    simpa [Array.getElem?_eq_getElem hi] using q
  obtain ⟨i0, ei0⟩ := is_v g1
  obtain rfl : w0 = (.int i0) := Option.some.inj ei0
  obtain ⟨i1, ei1⟩ := is_v g2
  obtain rfl : w1 = (.int i1) := Option.some.inj ei1
  obtain ⟨i2, ei2⟩ := is_v g3
  obtain rfl : w2 = (.int i2) := Option.some.inj ei2
  obtain ⟨i3, ei3⟩ := is_v r3
  obtain rfl : w3 = (.int i3) := Option.some.inj ei3
  have hr0 := Cond.before_iff.mp (show rest_1_c.before _ s = true from hrest)
  obtain ⟨u0, hr1⟩ := and_e hr0
  obtain ⟨u1, hr2⟩ := and_e hr1
  obtain ⟨u2, hr3⟩ := and_e hr2
  obtain ⟨u3, hr4⟩ := and_e hr3
  obtain ⟨aE, evE⟩ := exa_v u2
  have hEE := Exa.start evE u2
  have hSE := Sta.start evE (Or.inl (Cond.before_iff.mpr u1))
  have hFE := Fld.start ((fld_at evE).symm.trans (Cond.eq_int (Cond.before_iff.mpr u3) rfl))
  obtain ⟨n, o, h1, h2, h3, _, L, rfl, ⟨rfl, N⟩, hq⟩ := rm0 l s _ hw tables_1 i0 i1 i2 i3 aE s.heap s.heap.size (Nat.le_refl _) hSE hEE hFE p e ha hc hk s m _ below hf ((Spec.applies_iff_loose hf).mp happ).1 ⟨rfl, State.Warmed39.refl s, rfl⟩ trivial
  refine ⟨n, _, h1, h2, h3, hpost _ _ _ _ _ _ ⟨Cond.after_iff.mpr rfl, Cond.after_iff.mpr (eq_i res_at (Term.int_eval (1)) rfl), trivial⟩ ⟨hq.1, hq.2.1, (hq.2.2.sift fun y hy => Or.inr (N y hy)).mono (by decide) (by decide)⟩⟩
theorem main_1_1 : Claimed_1_1 := comes_1 fun _ _ _ _ _ _ h hF => ⟨h.1, hF⟩
theorem main_1_2 : Claimed_1_2 := comes_1 fun _ _ _ _ _ _ h hF => ⟨h.2.1, hF⟩
end Jvm.Pilot.@@N@@
namespace Jvm.Pilot.@@N@@
open Jvm Jvm.ClassFile Sem Op Lib Jvm.Free Jvm.Stand Jvm.Pilot.@@N@@.Jvm.D
/-! MADE BY PROGRAM (witnessworld.py) out of the Statement's table words and the real class files: 11 classes; the members and pool entries that the words name. The judged class is class 1, her method 2. -/
namespace start1
open Jvm.ClassFile
def u (s : String) : CpInfo := .utf8 (stringToUtf16 s)
/-- a pool by its gaps: so many unusable entries, then the entry; so many at the end -/
def gap : Nat → List CpInfo → List CpInfo
  | 0, r => r
  | n + 1, r => .unusable :: gap n r
def poolList (es : List (Nat × CpInfo)) (last : Nat) : List CpInfo := es.foldr (fun e r => gap e.1 (e.2 :: r)) (gap last [])
def pool (es : List (Nat × CpInfo)) (last : Nat) : Array CpInfo := ⟨poolList es last⟩
def fileOf (pool : Array CpInfo) (this : Nat) (attrs : Array Attribute := #[]) (ms : Array MethodInfo := #[]) (fl : Nat := 33) (sup : Nat := 0) (ifs : Array Nat := #[]) (fds : Array FieldInfo := #[]) : ClassFile where
  minorVersion := 0
  majorVersion := 65
  constantPool := pool
  accessFlags := fl
  thisClass := this
  superClass := sup
  interfaces := ifs
  fields := fds
  methods := ms
  attributes := attrs
def plain (name : String) (sup : Option ClassId) : Class where
  name := name
  kind := .ordinary
  loader := none
  accessFlags := 33
  super := sup
  interfaces := #[]
  cf := none
  fields := #[]
  methods := #[]
  instanceTypes := #[]
  staticTypes := #[]
  resolved := #[]
  callSites := []
  init := .initialized
  statics := none
  mirror := none

def pool0 : Array CpInfo := pool [(5, u "<init>"), (0, u "()V"), (1, .class_ 10), (1, u "java/lang/Object")] 113

def k0c0 : Code := { maxStack := 0, maxLocals := 1, code := object_method_1_code, exceptionTable := #[], attributes := #[] }
def k0m0 : Method := { name := "<init>", desc := "()V", sig := { parameters := [], returnType := none }, accessFlags := 1, code := some k0c0 }
/-- java/lang/Object -/
def k0 : Class := { plain "java/lang/Object" none with
  accessFlags := 33
  interfaces := #[]
  cf := some (fileOf pool0 8 #[] #[{ accessFlags := 1, nameIndex := 5, descriptorIndex := 6, attributes := #[] }] 33 0 #[] #[])
  fields := #[]
  methods := #[k0m0]
  instanceTypes := #[]
  staticTypes := #[]
  resolved := Array.replicate 124 none
  statics := none }

def pool1 : Array CpInfo := pool [(2, .class_ 4), (1, u "java/lang/Object"), (0, u "<init>"), (0, u "()V"), (0, .class_ 8), (0, u "com/example/graftwork/graftwork/simulate/Summary"), (0, .methodref 7 10), (0, .nameAndType 5 11), (0, u "(DIIDDIDD)V"), (0, .methodref 13 14), (0, .class_ 15), (0, .nameAndType 16 17), (0, u "com/example/graftwork/graftwork/simulate/SummaryAcceptanceRatioPinLaw"), (0, u "make"), (0, u "(II)Lcom/example/graftwork/graftwork/simulate/Summary;"), (0, .methodref 7 19), (0, .nameAndType 20 21), (0, u "acceptanceRatio"), (0, u "()Ljava/util/OptionalDouble;"), (0, .methodref 23 24), (0, .class_ 25), (0, .nameAndType 26 27), (0, u "java/util/OptionalDouble"), (0, u "isPresent"), (0, u "()Z"), (0, .integer 2147483647), (0, .methodref 23 30), (0, .nameAndType 31 32), (0, u "getAsDouble"), (0, u "()D"), (0, .integer 1073741823), (2, u "law"), (0, u "(IIII)Z")] 3

def k1m0 : Method := { name := "<init>", desc := "()V", sig := { parameters := [], returnType := none }, accessFlags := 1, code := none }
def k1c1 : Code := { maxStack := 15, maxLocals := 2, code := method_2_code, exceptionTable := #[], attributes := #[] }
def k1m1 : Method := { name := "make", desc := "(II)Lcom/example/graftwork/graftwork/simulate/Summary;", sig := { parameters := [.int, .int], returnType := some (.object "com/example/graftwork/graftwork/simulate/Summary") }, accessFlags := 10, code := some k1c1 }
def k1c2 : Code := { maxStack := 6, maxLocals := 19, code := code, exceptionTable := #[], attributes := #[] }
def k1m2 : Method := { name := "law", desc := "(IIII)Z", sig := { parameters := [.int, .int, .int, .int], returnType := some .boolean }, accessFlags := 9, code := some k1c2 }
/-- com/example/graftwork/graftwork/simulate/SummaryAcceptanceRatioPinLaw -/
def k1 : Class := { plain "com/example/graftwork/graftwork/simulate/SummaryAcceptanceRatioPinLaw" (some 0) with
  accessFlags := 49
  interfaces := #[]
  cf := some (fileOf pool1 13 #[] #[{ accessFlags := 1, nameIndex := 5, descriptorIndex := 6, attributes := #[] }, { accessFlags := 10, nameIndex := 16, descriptorIndex := 17, attributes := #[] }, { accessFlags := 9, nameIndex := 36, descriptorIndex := 37, attributes := #[] }] 49 2 #[] #[])
  fields := #[]
  methods := #[k1m0, k1m1, k1m2]
  instanceTypes := #[]
  staticTypes := #[]
  resolved := Array.replicate 41 none
  statics := none }

def pool2 : Array CpInfo := pool [(1, .methodref 2 3), (0, .class_ 4), (0, .nameAndType 5 6), (0, u "java/lang/Object"), (0, u "<init>"), (0, u "()V"), (0, .class_ 8), (0, u "java/lang/Record")] 13

def k2c0 : Code := { maxStack := 1, maxLocals := 1, code := jdk_30_method_1_code, exceptionTable := #[], attributes := #[] }
def k2m0 : Method := { name := "<init>", desc := "()V", sig := { parameters := [], returnType := none }, accessFlags := 4, code := some k2c0 }
/-- java/lang/Record -/
def k2 : Class := { plain "java/lang/Record" (some 0) with
  accessFlags := 1057
  interfaces := #[]
  cf := some (fileOf pool2 7 #[] #[{ accessFlags := 4, nameIndex := 5, descriptorIndex := 6, attributes := #[] }] 1057 2 #[] #[])
  fields := #[]
  methods := #[k2m0]
  instanceTypes := #[]
  staticTypes := #[]
  resolved := Array.replicate 22 none
  statics := none }

def pool3 : Array CpInfo := pool [(1, .methodref 2 3), (0, .class_ 4), (0, .nameAndType 5 6), (0, u "java/lang/Record"), (0, u "<init>"), (0, u "()V"), (0, .fieldref 8 9), (0, .class_ 10), (0, .nameAndType 11 12), (0, u "com/example/graftwork/graftwork/simulate/Summary"), (0, u "until"), (0, u "D"), (0, .fieldref 8 14), (0, .nameAndType 15 16), (0, u "arrivals"), (0, u "I"), (0, .fieldref 8 18), (0, .nameAndType 19 16), (0, u "accepted"), (0, .fieldref 8 21), (0, .nameAndType 22 12), (0, u "revenue"), (0, .fieldref 8 24), (0, .nameAndType 25 12), (0, u "cost"), (0, .fieldref 8 27), (0, .nameAndType 28 16), (0, u "inService"), (0, .fieldref 8 30), (0, .nameAndType 31 12), (0, u "residualCpu"), (0, .fieldref 8 33), (0, .nameAndType 34 12), (0, u "residualBandwidth"), (0, .methodref 36 37), (0, .class_ 38), (0, .nameAndType 39 40), (0, u "java/util/OptionalDouble"), (0, u "empty"), (0, u "()Ljava/util/OptionalDouble;"), (0, .methodref 36 42), (0, .nameAndType 43 44), (0, u "of"), (0, u "(D)Ljava/util/OptionalDouble;"), (12, u "(DIIDDIDD)V"), (5, u "acceptanceRatio")] 33

def k3c0 : Code := { maxStack := 3, maxLocals := 14, code := prog_53_method_1_code, exceptionTable := #[], attributes := #[] }
def k3m0 : Method := { name := "<init>", desc := "(DIIDDIDD)V", sig := { parameters := [.double, .int, .int, .double, .double, .int, .double, .double], returnType := none }, accessFlags := 1, code := some k3c0 }
def k3c1 : Code := { maxStack := 4, maxLocals := 1, code := prog_53_method_3_code, exceptionTable := #[], attributes := #[] }
def k3m1 : Method := { name := "acceptanceRatio", desc := "()Ljava/util/OptionalDouble;", sig := { parameters := [], returnType := some (.object "java/util/OptionalDouble") }, accessFlags := 1, code := some k3c1 }
/-- com/example/graftwork/graftwork/simulate/Summary -/
def k3 : Class := { plain "com/example/graftwork/graftwork/simulate/Summary" (some 2) with
  accessFlags := 49
  interfaces := #[]
  cf := some (fileOf pool3 8 #[] #[{ accessFlags := 1, nameIndex := 5, descriptorIndex := 57, attributes := #[] }, { accessFlags := 1, nameIndex := 63, descriptorIndex := 40, attributes := #[] }] 49 2 #[] #[{ accessFlags := 18, nameIndex := 11, descriptorIndex := 12, attributes := #[] }, { accessFlags := 18, nameIndex := 15, descriptorIndex := 16, attributes := #[] }, { accessFlags := 18, nameIndex := 19, descriptorIndex := 16, attributes := #[] }, { accessFlags := 18, nameIndex := 22, descriptorIndex := 12, attributes := #[] }, { accessFlags := 18, nameIndex := 25, descriptorIndex := 12, attributes := #[] }, { accessFlags := 18, nameIndex := 28, descriptorIndex := 16, attributes := #[] }, { accessFlags := 18, nameIndex := 31, descriptorIndex := 12, attributes := #[] }, { accessFlags := 18, nameIndex := 34, descriptorIndex := 12, attributes := #[] }])
  fields := #[{ name := "until", type := .double, accessFlags := 18, slot := 0, constantValue := 0 }, { name := "arrivals", type := .int, accessFlags := 18, slot := 1, constantValue := 0 }, { name := "accepted", type := .int, accessFlags := 18, slot := 2, constantValue := 0 }, { name := "revenue", type := .double, accessFlags := 18, slot := 3, constantValue := 0 }, { name := "cost", type := .double, accessFlags := 18, slot := 4, constantValue := 0 }, { name := "inService", type := .int, accessFlags := 18, slot := 5, constantValue := 0 }, { name := "residualCpu", type := .double, accessFlags := 18, slot := 6, constantValue := 0 }, { name := "residualBandwidth", type := .double, accessFlags := 18, slot := 7, constantValue := 0 }]
  methods := #[k3m0, k3m1]
  instanceTypes := #[.double, .int, .int, .double, .double, .int, .double, .double]
  staticTypes := #[]
  resolved := Array.replicate 97 none
  statics := none }

def pool4 : Array CpInfo := pool [(1, .methodref 2 3), (0, .class_ 4), (0, .nameAndType 5 6), (0, u "java/lang/Object"), (0, u "<init>"), (0, u "()V"), (0, .fieldref 8 9), (0, .class_ 10), (0, .nameAndType 11 12), (0, u "java/util/OptionalDouble"), (0, u "isPresent"), (0, u "Z"), (4, .fieldref 8 18), (0, .nameAndType 19 20), (0, u "value"), (0, u "D"), (0, .fieldref 8 22), (0, .nameAndType 23 24), (0, u "EMPTY"), (0, u "Ljava/util/OptionalDouble;"), (0, .methodref 8 26), (0, .nameAndType 5 27), (0, u "(D)V"), (21, u "of"), (3, u "empty"), (5, u "getAsDouble"), (0, u "()D"), (41, u "()Ljava/util/OptionalDouble;"), (0, u "(D)Ljava/util/OptionalDouble;"), (1, u "()Z")] 38

def k4m0 : Method := { name := "<init>", desc := "()V", sig := { parameters := [], returnType := none }, accessFlags := 2, code := none }
def k4c1 : Code := { maxStack := 1, maxLocals := 0, code := jdk_2648_method_2_code, exceptionTable := #[], attributes := #[] }
def k4m1 : Method := { name := "empty", desc := "()Ljava/util/OptionalDouble;", sig := { parameters := [], returnType := some (.object "java/util/OptionalDouble") }, accessFlags := 9, code := some k4c1 }
def k4c2 : Code := { maxStack := 3, maxLocals := 3, code := jdk_2648_method_3_code, exceptionTable := #[], attributes := #[] }
def k4m2 : Method := { name := "<init>", desc := "(D)V", sig := { parameters := [.double], returnType := none }, accessFlags := 2, code := some k4c2 }
def k4c3 : Code := { maxStack := 4, maxLocals := 2, code := jdk_2648_method_4_code, exceptionTable := #[], attributes := #[] }
def k4m3 : Method := { name := "of", desc := "(D)Ljava/util/OptionalDouble;", sig := { parameters := [.double], returnType := some (.object "java/util/OptionalDouble") }, accessFlags := 9, code := some k4c3 }
def k4c4 : Code := { maxStack := 3, maxLocals := 1, code := jdk_2648_method_5_code, exceptionTable := #[], attributes := #[] }
def k4m4 : Method := { name := "getAsDouble", desc := "()D", sig := { parameters := [], returnType := some .double }, accessFlags := 1, code := some k4c4 }
def k4c5 : Code := { maxStack := 1, maxLocals := 1, code := jdk_2648_method_6_code, exceptionTable := #[], attributes := #[] }
def k4m5 : Method := { name := "isPresent", desc := "()Z", sig := { parameters := [], returnType := some .boolean }, accessFlags := 1, code := some k4c5 }
/-- java/util/OptionalDouble -/
def k4 : Class := { plain "java/util/OptionalDouble" (some 0) with
  accessFlags := 49
  interfaces := #[]
  cf := some (fileOf pool4 8 #[] #[{ accessFlags := 2, nameIndex := 5, descriptorIndex := 6, attributes := #[] }, { accessFlags := 9, nameIndex := 53, descriptorIndex := 102, attributes := #[] }, { accessFlags := 2, nameIndex := 5, descriptorIndex := 27, attributes := #[] }, { accessFlags := 9, nameIndex := 49, descriptorIndex := 103, attributes := #[] }, { accessFlags := 1, nameIndex := 59, descriptorIndex := 60, attributes := #[] }, { accessFlags := 1, nameIndex := 11, descriptorIndex := 105, attributes := #[] }] 49 2 #[] #[{ accessFlags := 26, nameIndex := 23, descriptorIndex := 24, attributes := #[] }, { accessFlags := 18, nameIndex := 11, descriptorIndex := 12, attributes := #[] }, { accessFlags := 18, nameIndex := 19, descriptorIndex := 20, attributes := #[] }])
  fields := #[{ name := "EMPTY", type := (.object "java/util/OptionalDouble"), accessFlags := 26, slot := 0, constantValue := 0 }, { name := "isPresent", type := .boolean, accessFlags := 18, slot := 0, constantValue := 0 }, { name := "value", type := .double, accessFlags := 18, slot := 1, constantValue := 0 }]
  methods := #[k4m0, k4m1, k4m2, k4m3, k4m4, k4m5]
  instanceTypes := #[.boolean, .double]
  staticTypes := #[(.object "java/util/OptionalDouble")]
  resolved := Array.replicate 144 none
  statics := some 0 }

def pool5 : Array CpInfo := pool [(1, u "java/lang/Cloneable"), (0, .class_ 1), (0, u "java/lang/Object"), (0, .class_ 3)] 3

/-- java/lang/Cloneable -/
def k5 : Class := { plain "java/lang/Cloneable" (some 0) with
  accessFlags := 1537
  interfaces := #[]
  cf := some (fileOf pool5 2 #[] #[] 1537 4 #[] #[])
  fields := #[]
  methods := #[]
  instanceTypes := #[]
  staticTypes := #[]
  resolved := Array.replicate 8 none
  statics := none }

def pool6 : Array CpInfo := pool [(1, u "java/io/Serializable"), (0, .class_ 1), (0, u "java/lang/Object"), (0, .class_ 3)] 3

/-- java/io/Serializable -/
def k6 : Class := { plain "java/io/Serializable" (some 0) with
  accessFlags := 1537
  interfaces := #[]
  cf := some (fileOf pool6 2 #[] #[] 1537 4 #[] #[])
  fields := #[]
  methods := #[]
  instanceTypes := #[]
  staticTypes := #[]
  resolved := Array.replicate 8 none
  statics := none }

/-- the primitive byte -/
def k7 : Class := { plain "byte" none with kind := .primitive 'B', accessFlags := 0x411 }
/-- [B -/
def k8 : Class := { plain "[B" (some 0) with kind := .array 7 .byte, interfaces := #[5, 6], accessFlags := 1041 }

/-- the primitive int -/
def k9 : Class := { plain "int" none with kind := .primitive 'I', accessFlags := 0x411 }
/-- [I -/
def k10 : Class := { plain "[I" (some 0) with kind := .array 9 .int, interfaces := #[5, 6], accessFlags := 1041 }

def heap : Heap := #[{ cls := 4, slots := #[.ref 1], vm := .statics 4 },
  { cls := 4, slots := #[.int 0, .double 0], vm := .none }]
def classes : Array Class := #[k0, k1, k2, k3, k4, k5, k6, k7, k8, k9, k10]
def interned : List (Array UInt16 × Addr) := []
def slotsUsed : Nat := 3
def theMethod : MethodId := ⟨1, 2⟩
def args0 : Array Value := #[.int 7, .int 3, .int 5, .int 3]
def aboutOver (below : List Frame) : State where
  vm := { classes := classes, interned := interned.toArray }
  heap := heap
  slotsUsed := slotsUsed
  threads := #[{ frames := .invoking theMethod args0 :: below }]
def below0 : List Frame := [.native { method := ⟨0, 0⟩, args := #[] }]
def about1 : State := aboutOver below0
def p0 : Program := .bare "" "" ""
def e0 : Env := launch0.env 0 0 0
theorem w_frames : about1.frames = Frame.invoking theMethod args0 :: below0 := rfl
set_option maxRecDepth 65536 in
theorem w_args : argsFit about1.vm theMethod args0 = true := by decide +kernel
set_option maxRecDepth 65536 in
theorem w_heap : heapFits about1 = true := by decide +kernel
set_option maxRecDepth 65536 in
theorem w_runnable : about1.curStatus? = some .runnable := by decide +kernel
set_option maxRecDepth 65536 in
theorem w_alone : about1.alone = true := by decide +kernel
set_option maxRecDepth 65536 in
theorem w_named : about1.methodNamed? x = some theMethod := by decide +kernel
set_option maxRecDepth 65536 in
theorem w_hears : about1.hears theMethod below0 = true := by decide +kernel
set_option maxRecDepth 65536 in
theorem w_ripe : about1.ripe theMethod args0 below0 = true := by decide +kernel
theorem w_running : about1.status = .running := rfl
set_option maxRecDepth 65536 in
theorem w_room : about1.hasRoom e0.platform room_1 = true :=
  launch0.hasRoom_least _ room_1 (by decide +kernel) (by decide +kernel) (by decide +kernel) (by decide +kernel) (by decide +kernel) (by decide +kernel)
theorem allAtoms_all (ts : List Jvm.Cond) (a : Array Jvm.Value) (st : Jvm.State) : (allAtoms ts).before a st = ts.all (fun c => c.before a st) := by
  induction ts with
  | nil => rfl
  | cons c t ih =>
    show (Jvm.Cond.and c (allAtoms t)).before a st = _
    rw [Jvm.Cond.before_and, ih, List.all_cons]
def words1 : List Jvm.Cond := Jvm.Cond.code x code maxLocals ret :: tables_1
/-- a 'code' word, met by the world's own term for the bytes: nothing is compared byte by byte -/
theorem code_word {y : MethodName} {bytes : ByteArray} {mx : Nat} {rt : Option FieldType} {a : Array Value} {s : State} {m : MethodId} {meth : Method} {c : Code} (h1 : s.methodNamed? y = some m) (h2 : s.vm.method? m = some meth) (h3 : meth.code = some c) (h4 : c.code = bytes)
    (h5 : (c.maxLocals == mx && c.exceptionTable.isEmpty && decide (c.maxStack ≤ mostOperands) && decide (meth.sig.returnType = rt) && !meth.locks && decide (parseMethodDescriptor y.desc = some meth.sig)) = true) : (Jvm.Cond.code y bytes mx rt).before a s = true := by
  simp only [Bool.and_eq_true, beq_iff_eq, Bool.not_eq_true', decide_eq_true_eq] at h5
  obtain ⟨⟨⟨⟨⟨g1, g2⟩, g3⟩, g4⟩, g5⟩, g6⟩ := h5
  simp [Cond.before, Cond.holds, Cond.value, h1, h2, h3, h4, g1, g2, g3, g4, g5, g6]
def isCode : Jvm.Cond → Bool
  | .code _ _ _ _ => true
  | _ => false
theorem all_split {L : List Jvm.Cond} {P : Jvm.Cond → Bool} (h1 : L.all (fun c => isCode c || P c) = true) (h2 : ∀ c ∈ L.filter isCode, P c = true) : L.all P = true := by
  refine List.all_eq_true.mpr fun c hc => ?_
  have h := List.all_eq_true.mp h1 c hc
  rcases Bool.eq_false_or_eq_true (isCode c) with hi | hi
  · exact h2 c (List.mem_filter.mpr ⟨hc, hi⟩)
  · simpa [hi] using h
set_option maxRecDepth 65536 in
theorem w_c0 : (Jvm.Cond.code x code maxLocals ret).before args0 about1 = true := code_word (m := ⟨1, 2⟩) (meth := k1m2) (c := k1c2) (by decide +kernel) rfl rfl rfl (by decide +kernel)
set_option maxRecDepth 65536 in
theorem w_c1 : (Jvm.Cond.code ({ cls := "com/example/graftwork/graftwork/simulate/SummaryAcceptanceRatioPinLaw", name := "make", desc := "(II)Lcom/example/graftwork/graftwork/simulate/Summary;" } : Jvm.MethodName) method_2_code (2 : Nat) (Option.some (Jvm.ClassFile.FieldType.object "com/example/graftwork/graftwork/simulate/Summary"))).before args0 about1 = true := code_word (m := ⟨1, 1⟩) (meth := k1m1) (c := k1c1) (by decide +kernel) rfl rfl rfl (by decide +kernel)
set_option maxRecDepth 65536 in
theorem w_c2 : (Jvm.Cond.code ({ cls := "com/example/graftwork/graftwork/simulate/Summary", name := "<init>", desc := "(DIIDDIDD)V" } : Jvm.MethodName) prog_53_method_1_code (14 : Nat) (Option.none : Option Jvm.ClassFile.FieldType)).before args0 about1 = true := code_word (m := ⟨3, 0⟩) (meth := k3m0) (c := k3c0) (by decide +kernel) rfl rfl rfl (by decide +kernel)
set_option maxRecDepth 65536 in
theorem w_c3 : (Jvm.Cond.code ({ cls := "java/lang/Record", name := "<init>", desc := "()V" } : Jvm.MethodName) jdk_30_method_1_code (1 : Nat) (Option.none : Option Jvm.ClassFile.FieldType)).before args0 about1 = true := code_word (m := ⟨2, 0⟩) (meth := k2m0) (c := k2c0) (by decide +kernel) rfl rfl rfl (by decide +kernel)
set_option maxRecDepth 65536 in
theorem w_c4 : (Jvm.Cond.code ({ cls := "java/lang/Object", name := "<init>", desc := "()V" } : Jvm.MethodName) object_method_1_code (1 : Nat) (Option.none : Option Jvm.ClassFile.FieldType)).before args0 about1 = true := code_word (m := ⟨0, 0⟩) (meth := k0m0) (c := k0c0) (by decide +kernel) rfl rfl rfl (by decide +kernel)
set_option maxRecDepth 65536 in
theorem w_c5 : (Jvm.Cond.code ({ cls := "com/example/graftwork/graftwork/simulate/Summary", name := "acceptanceRatio", desc := "()Ljava/util/OptionalDouble;" } : Jvm.MethodName) prog_53_method_3_code (1 : Nat) (Option.some (Jvm.ClassFile.FieldType.object "java/util/OptionalDouble"))).before args0 about1 = true := code_word (m := ⟨3, 1⟩) (meth := k3m1) (c := k3c1) (by decide +kernel) rfl rfl rfl (by decide +kernel)
set_option maxRecDepth 65536 in
theorem w_c6 : (Jvm.Cond.code ({ cls := "java/util/OptionalDouble", name := "empty", desc := "()Ljava/util/OptionalDouble;" } : Jvm.MethodName) jdk_2648_method_2_code (0 : Nat) (Option.some (Jvm.ClassFile.FieldType.object "java/util/OptionalDouble"))).before args0 about1 = true := code_word (m := ⟨4, 1⟩) (meth := k4m1) (c := k4c1) (by decide +kernel) rfl rfl rfl (by decide +kernel)
set_option maxRecDepth 65536 in
theorem w_c7 : (Jvm.Cond.code ({ cls := "java/util/OptionalDouble", name := "isPresent", desc := "()Z" } : Jvm.MethodName) jdk_2648_method_6_code (1 : Nat) (Option.some Jvm.ClassFile.FieldType.boolean)).before args0 about1 = true := code_word (m := ⟨4, 5⟩) (meth := k4m5) (c := k4c5) (by decide +kernel) rfl rfl rfl (by decide +kernel)
set_option maxRecDepth 65536 in
theorem w_c8 : (Jvm.Cond.code ({ cls := "java/util/OptionalDouble", name := "of", desc := "(D)Ljava/util/OptionalDouble;" } : Jvm.MethodName) jdk_2648_method_4_code (2 : Nat) (Option.some (Jvm.ClassFile.FieldType.object "java/util/OptionalDouble"))).before args0 about1 = true := code_word (m := ⟨4, 3⟩) (meth := k4m3) (c := k4c3) (by decide +kernel) rfl rfl rfl (by decide +kernel)
set_option maxRecDepth 65536 in
theorem w_c9 : (Jvm.Cond.code ({ cls := "java/util/OptionalDouble", name := "<init>", desc := "(D)V" } : Jvm.MethodName) jdk_2648_method_3_code (3 : Nat) (Option.none : Option Jvm.ClassFile.FieldType)).before args0 about1 = true := code_word (m := ⟨4, 2⟩) (meth := k4m2) (c := k4c2) (by decide +kernel) rfl rfl rfl (by decide +kernel)
set_option maxRecDepth 65536 in
theorem w_c10 : (Jvm.Cond.code ({ cls := "java/util/OptionalDouble", name := "getAsDouble", desc := "()D" } : Jvm.MethodName) jdk_2648_method_5_code (1 : Nat) (Option.some Jvm.ClassFile.FieldType.double)).before args0 about1 = true := code_word (m := ⟨4, 4⟩) (meth := k4m4) (c := k4c4) (by decide +kernel) rfl rfl rfl (by decide +kernel)
def codes1 : List Jvm.Cond := [Jvm.Cond.code x code maxLocals ret, Jvm.Cond.code ({ cls := "com/example/graftwork/graftwork/simulate/SummaryAcceptanceRatioPinLaw", name := "make", desc := "(II)Lcom/example/graftwork/graftwork/simulate/Summary;" } : Jvm.MethodName) method_2_code (2 : Nat) (Option.some (Jvm.ClassFile.FieldType.object "com/example/graftwork/graftwork/simulate/Summary")), Jvm.Cond.code ({ cls := "com/example/graftwork/graftwork/simulate/Summary", name := "<init>", desc := "(DIIDDIDD)V" } : Jvm.MethodName) prog_53_method_1_code (14 : Nat) (Option.none : Option Jvm.ClassFile.FieldType), Jvm.Cond.code ({ cls := "java/lang/Record", name := "<init>", desc := "()V" } : Jvm.MethodName) jdk_30_method_1_code (1 : Nat) (Option.none : Option Jvm.ClassFile.FieldType), Jvm.Cond.code ({ cls := "java/lang/Object", name := "<init>", desc := "()V" } : Jvm.MethodName) object_method_1_code (1 : Nat) (Option.none : Option Jvm.ClassFile.FieldType), Jvm.Cond.code ({ cls := "com/example/graftwork/graftwork/simulate/Summary", name := "acceptanceRatio", desc := "()Ljava/util/OptionalDouble;" } : Jvm.MethodName) prog_53_method_3_code (1 : Nat) (Option.some (Jvm.ClassFile.FieldType.object "java/util/OptionalDouble")), Jvm.Cond.code ({ cls := "java/util/OptionalDouble", name := "empty", desc := "()Ljava/util/OptionalDouble;" } : Jvm.MethodName) jdk_2648_method_2_code (0 : Nat) (Option.some (Jvm.ClassFile.FieldType.object "java/util/OptionalDouble")), Jvm.Cond.code ({ cls := "java/util/OptionalDouble", name := "isPresent", desc := "()Z" } : Jvm.MethodName) jdk_2648_method_6_code (1 : Nat) (Option.some Jvm.ClassFile.FieldType.boolean), Jvm.Cond.code ({ cls := "java/util/OptionalDouble", name := "of", desc := "(D)Ljava/util/OptionalDouble;" } : Jvm.MethodName) jdk_2648_method_4_code (2 : Nat) (Option.some (Jvm.ClassFile.FieldType.object "java/util/OptionalDouble")), Jvm.Cond.code ({ cls := "java/util/OptionalDouble", name := "<init>", desc := "(D)V" } : Jvm.MethodName) jdk_2648_method_3_code (3 : Nat) (Option.none : Option Jvm.ClassFile.FieldType), Jvm.Cond.code ({ cls := "java/util/OptionalDouble", name := "getAsDouble", desc := "()D" } : Jvm.MethodName) jdk_2648_method_5_code (1 : Nat) (Option.some Jvm.ClassFile.FieldType.double)]
set_option maxRecDepth 65536 in
theorem codes_eq : words1.filter isCode = codes1 := rfl
theorem w_codes : ∀ c ∈ words1.filter isCode, c.before args0 about1 = true := by
  rw [codes_eq]
  intro c hc
  simp only [codes1, List.mem_cons, List.not_mem_nil, or_false] at hc
  rcases hc with rfl | rfl | rfl | rfl | rfl | rfl | rfl | rfl | rfl | rfl | rfl
  · exact w_c0
  · exact w_c1
  · exact w_c2
  · exact w_c3
  · exact w_c4
  · exact w_c5
  · exact w_c6
  · exact w_c7
  · exact w_c8
  · exact w_c9
  · exact w_c10
set_option maxRecDepth 65536 in
theorem w_t1 : (words1.take 24).all (fun c => isCode c || c.before args0 about1) = true := by decide +kernel
set_option maxRecDepth 65536 in
theorem w_t2 : ((words1.drop 24).take 24).all (fun c => isCode c || c.before args0 about1) = true := by decide +kernel
set_option maxRecDepth 65536 in
theorem w_t3 : ((words1.drop 24).drop 24).all (fun c => isCode c || c.before args0 about1) = true := by decide +kernel
theorem w_tables : (allAtoms (Jvm.Cond.code x code maxLocals ret :: tables_1)).before args0 about1 = true := by
  rw [allAtoms_all]
  show words1.all (fun c => c.before args0 about1) = true
  refine all_split ?_ w_codes
  rw [← List.take_append_drop 24 words1, List.all_append, w_t1, ← List.take_append_drop 24 (words1.drop 24), List.all_append, w_t2, w_t3]
  rfl
set_option maxRecDepth 65536 in
theorem w_rest : rest_1_c.before args0 about1 = true := by decide +kernel
set_option maxRecDepth 65536 in
theorem w_case : (Jvm.Cond.and given_1 narrow_1).before args0 about1 = true := by decide +kernel
theorem w_applies : (headSpec (Jvm.Cond.code x code maxLocals ret :: tables_1) room_1).applies x e0.platform about1 = true :=
  (Spec.applies_iff w_frames).mpr ⟨w_running, w_runnable, w_alone, w_named, w_hears, w_ripe, w_room, w_tables⟩
theorem atStart : AtStart classFile x code maxLocals ret World_1 tables_1 room_1 Calls_1 rest_1 Pre_1 launch0 p0 e0 about1 theMethod args0 below0 :=
  ⟨lists_1, trivial, launch0.admits_env _ _ _, launch0.least_env, fairChoices_fair.cas, fairChoices_fair.clock, w_frames, w_args, w_heap, w_applies, trivial, w_rest, w_case⟩
end start1
theorem witness_1 : WitnessClaimed_1 := ⟨start1.p0, start1.e0, start1.about1, start1.theMethod, start1.args0, start1.below0, start1.atStart⟩
end Jvm.Pilot.@@N@@
