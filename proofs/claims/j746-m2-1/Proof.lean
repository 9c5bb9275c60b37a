import JvmDerived
import JvmDerived.Pilot.@@N@@Statement
import JvmDerived.Pilot.@@N@@Code
set_option linter.unusedVariables false
set_option linter.unusedSimpArgs false

namespace Jvm.RoadKit
open Sem ClassFile Op Lib Jvm.Stand Jvm.Free Jvm.LawKit
section New
variable {p : Program} {l : Launch} {e : Env} {R : Room} {s : State} {m : MethodId} {args : Array Value} {below : List Frame} {meth : Method} {c : Code} {T : State} {locs : List Loc} {cells slots : Nat}
theorem retI (X : Stand p l e R s m args below meth c T locs cells slots) (hx : p.tables.exec = Jvm.exec) {pc : Nat} {Ls : Array Slot} {z : Int32} {rest : List Value} (hret : meth.sig.returnType = some .int) (hd : decode c.code pc = .ok (.ireturn, 1)) {fs : List Frame}
    (hl : ∀ (f : JFrame) (acts : List Action), f.method = m → f.locked = none → f.entered = [] → (doReturn e (T.setTop f) acts (some (.int z))).1 = T.setFrames fs) : Steps p.tables e below (T.setTop (mkF m pc Ls (.int z :: rest))) (T.setFrames fs) := by
  have hm' : T.vm.method? m = some meth := X.method'
  have hn : narrow .int (.int z) = .int z := rfl
  show Steps p.tables e below (T.setTop { method := m, pc := pc, locals := Ls, stack := _ :: rest, locked := none }) _
  jvm_step X.here [X.here.top, hx, hd, hm', hret, hn]
  first | (intro acts; rw [hl _ acts rfl rfl rfl]) | rw [hl _ _ rfl rfl rfl]
  exact Steps.refl _
end New
end Jvm.RoadKit
namespace Own
open Jvm.FP.Core
def own_shift (k : Int) : Datum → Datum
  | .fin s c q => .fin s c (q + k)
  | d => d
/-- the datum is i / 2^k -/
def own_Dy (k : Nat) (i : Int) (d : Datum) : Prop := Whole i (own_shift k d)
theorem own_sh_prod (k l : Int) (x y : Datum) : exactProduct (own_shift k x) (own_shift l y) = own_shift (k + l) (exactProduct x y) := by
  cases x <;> cases y <;> simp only [own_shift, exactProduct]
  · split <;> rfl
  · split <;> rfl
  · congr 1; omega
theorem own_sh_sum (k : Int) (x y : Datum) : exactSum (own_shift k x) (own_shift k y) = own_shift k (exactSum x y) := by
  cases x <;> cases y <;> simp only [own_shift, exactSum]
  · split <;> rfl
  · rename_i s c q t d r
    have e : min (q + k) (r + k) = min q r + k := by omega
    have e2 : sumUnits s c (q + k) t d (r + k) (min (q + k) (r + k)) = sumUnits s c q t d r (min q r) := by
      unfold sumUnits inUnits
      rw [e, show q + k - (min q r + k) = q - min q r by omega, show r + k - (min q r + k) = r - min q r by omega]
    rw [e2, e]
theorem own_sh_neg (k : Int) (x : Datum) : negate (own_shift k x) = own_shift k (negate x) := by cases x <;> rfl
theorem own_sh_ord (k : Int) (x y : Datum) : order (own_shift k x) (own_shift k y) = order x y := by
  cases x <;> cases y <;> simp only [own_shift, order]
  rename_i s c q t d r
  have e : min (q + k) (r + k) = min q r + k := by omega
  unfold inUnits
  rw [e, show q + k - (min q r + k) = q - min q r by omega, show r + k - (min q r + k) = r - min q r by omega]
theorem own_Dy_round {k : Nat} {i : Int} {d : Datum} (hk : k ≤ 900) (hi : i.natAbs ≤ 2 ^ 53) (h : own_Dy k i d) : own_Dy k i (round b64 d) := by
  cases d with
  | nan => exact h.elim
  | inf => exact h.elim
  | fin s c q =>
    have hw : Whole i (.fin s c (q + k)) := h
    have h1 := whole_natAbs hw
    by_cases i0 : i = 0
    · have c0 : c = 0 := (whole_zero hw).mpr i0
      subst c0; subst i0
      show Whole 0 (own_shift k (roundRatio b64 s 0 1 q))
      rw [show roundRatio b64 s 0 1 q = .fin s 0 b64.qmin by simp [roundRatio]]
      show signed s (0 * _) = _
      simp [signed_zero]
    · obtain ⟨c', q', hfit, hv⟩ := natFit good_b64 wide_b64 s hi
      obtain ⟨f1, f2, f3, f4⟩ := hfit
      have hp53 : (2 : Nat) ^ b64.p = 2 ^ 53 := by decide
      have hqm : b64.qmin = -1074 := by decide
      have hqx : b64.qmax = 971 := by decide
      rw [hp53] at f1
      rw [Nat.mul_one, show (0 - q').toNat = (-q').toNat by omega, show (q' - 0).toNat = q'.toNat by omega] at hv
      have hq : -53 < q' := by
        rcases Int.lt_or_le (-53) q' with z | z
        · exact z
        · exfalso
          rw [show q'.toNat = 0 by omega, Nat.pow_zero, Nat.mul_one] at hv
          have : 2 ^ 53 ≤ 2 ^ (-q').toNat := Nat.pow_le_pow_right (by decide) (by omega)
          have h2 : 1 * 2 ^ (-q').toNat ≤ i.natAbs * 2 ^ (-q').toNat := Nat.mul_le_mul_right _ (by omega)
          omega
      have e : round b64 (.fin s c q) = .fin s c' (q' - k) := by
        refine roundRatio_exact good_b64 (by decide) ⟨by rw [hp53]; exact f1, by omega, by omega, Or.inr (f4.resolve_left (by omega))⟩ ?_
        refine Nat.eq_of_mul_eq_mul_right (Nat.mul_pos (Nat.two_pow_pos (q + k).toNat) (Nat.two_pow_pos (-q').toNat)) ?_
        have e1 : (q - (q' - (k : Int))).toNat + (-(q + k)).toNat + q'.toNat = ((q' - (k : Int)) - q).toNat + (q + k).toNat + (-q').toNat := by omega
        calc c * 2 ^ (q - (q' - (k : Int))).toNat * (2 ^ (q + k).toNat * 2 ^ (-q').toNat)
            = (c * 2 ^ (q + k).toNat) * (2 ^ (q - (q' - (k : Int))).toNat * 2 ^ (-q').toNat) := by ac_rfl
          _ = (i.natAbs * 2 ^ (-q').toNat) * (2 ^ (-(q + k)).toNat * 2 ^ (q - (q' - (k : Int))).toNat) := by rw [h1]; ac_rfl
          _ = c' * 2 ^ ((q - (q' - (k : Int))).toNat + (-(q + k)).toNat + q'.toNat) := by rw [hv]; simp only [Nat.pow_add]; ac_rfl
          _ = c' * 1 * 2 ^ (q' - (k : Int) - q).toNat * (2 ^ (q + k).toNat * 2 ^ (-q').toNat) := by rw [e1]; simp only [Nat.pow_add, Nat.mul_one]; ac_rfl
      rw [e]
      show signed s (c' * 2 ^ (q' - k + k).toNat) = i * ((2 ^ (-(q' - k + k)).toNat : Nat) : Int)
      rw [show q' - (k : Int) + k = q' by omega, ← hv, whole_sign hw i0, signed_mul]
      congr 1
      unfold signed
      by_cases z : i < 0 <;> simp [z] <;> omega
def own_D (k : Nat) (i : Int) (x : UInt64) : Prop := own_Dy k i (val64 x)
theorem own_D_int {i : Int} {x : UInt64} (h : DInt i x) : own_D 0 i x := by
  unfold own_D own_Dy; unfold DInt at h
  cases hv : val64 x with
  | nan => rw [hv] at h; exact h
  | inf => rw [hv] at h; exact h
  | fin s c q => rw [hv] at h; show Whole i (.fin s c (q + ((0 : Nat) : Int))); rw [show q + ((0 : Nat) : Int) = q by omega]; exact h
theorem own_Dw_up {i : Int} {s : Bool} {c : Nat} {q : Int} (l : Nat) (h : Whole i (.fin s c q)) : Whole (i * ((2 ^ l : Nat) : Int)) (.fin s c (q + l)) := by
  have h1 : signed s (c * 2 ^ q.toNat) = i * ((2 ^ (-q).toNat : Nat) : Int) := h
  show signed s (c * 2 ^ (q + l).toNat) = i * ((2 ^ l : Nat) : Int) * ((2 ^ (-(q + l)).toNat : Nat) : Int)
  have p : ((2 ^ (-q).toNat : Nat) : Int) ≠ 0 := by have := Nat.two_pow_pos (-q).toNat; omega
  refine Int.eq_of_mul_eq_mul_right p ?_
  have e : (q + l).toNat + (-q).toNat = q.toNat + l + (-(q + l)).toNat := by omega
  calc signed s (c * 2 ^ (q + l).toNat) * ((2 ^ (-q).toNat : Nat) : Int) = signed s (c * 2 ^ ((q + l).toNat + (-q).toNat)) := by rw [← signed_mul, Nat.pow_add, Nat.mul_assoc]
    _ = signed s (c * 2 ^ q.toNat * (2 ^ l * 2 ^ (-(q + l)).toNat)) := by rw [e]; congr 1; simp only [Nat.pow_add]; ac_rfl
    _ = i * ((2 ^ l : Nat) : Int) * ((2 ^ (-(q + l)).toNat : Nat) : Int) * ((2 ^ (-q).toNat : Nat) : Int) := by rw [signed_mul, h1, Int.natCast_mul]; ac_rfl
theorem own_D_up {k : Nat} {i : Int} {x : UInt64} (l : Nat) (h : own_D k i x) : own_D (k + l) (i * ((2 ^ l : Nat) : Int)) x := by
  unfold own_D own_Dy at *
  cases hv : val64 x with
  | nan => rw [hv] at h; exact h.elim
  | inf => rw [hv] at h; exact h.elim
  | fin s c q =>
    rw [hv] at h
    have := own_Dw_up l (show Whole i (.fin s c (q + k)) from h)
    show Whole _ (.fin s c (q + ((k + l : Nat) : Int)))
    rw [show q + ((k + l : Nat) : Int) = q + k + l by omega]; exact this
theorem own_D_mul {k l : Nat} {i j : Int} {a b : UInt64} (ha : own_D k i a) (hb : own_D l j b) (hk : k + l ≤ 900) (h : (i * j).natAbs ≤ 2 ^ 53) : own_D (k + l) (i * j) (dmul a b) := by
  unfold own_D
  rw [val64_dmul]
  refine own_Dy_round hk h ?_
  unfold own_Dy
  rw [show (((k + l : Nat)) : Int) = (k : Int) + l by omega, ← own_sh_prod]
  exact whole_product ha hb
theorem own_D_add {k : Nat} {i j : Int} {a b : UInt64} (ha : own_D k i a) (hb : own_D k j b) (hk : k ≤ 900) (h : (i + j).natAbs ≤ 2 ^ 53) : own_D k (i + j) (dadd a b) := by
  unfold own_D
  rw [val64_dadd]
  refine own_Dy_round hk h ?_
  unfold own_Dy
  rw [← own_sh_sum]
  exact whole_sum ha hb
theorem own_D_sub {k : Nat} {i j : Int} {a b : UInt64} (ha : own_D k i a) (hb : own_D k j b) (hk : k ≤ 900) (h : (i - j).natAbs ≤ 2 ^ 53) : own_D k (i - j) (dsub a b) := by
  unfold own_D
  rw [val64_dsub]
  refine own_Dy_round hk h ?_
  unfold own_Dy
  rw [← own_sh_sum, ← own_sh_neg]
  exact whole_sum ha (whole_negate hb)
theorem own_D_cmp {k : Nat} {i j : Int} {a b : UInt64} (ha : own_D k i a) (hb : own_D k j b) : dcmp a b = some (compare i j) := by
  show order (val64 a) (val64 b) = _
  rw [← own_sh_ord k]
  exact order_whole ha hb
theorem own_D_nn {k : Nat} {i : Int} {a : UInt64} (h : own_D k i a) : val64 a ≠ .nan := fun q => by
  unfold own_D own_Dy at h; rw [q] at h; exact h
theorem own_D_div {i : Int} {l : Nat} {a b : UInt64} (ha : DInt i a) (hb : DInt ((2 ^ l : Nat) : Int) b) (hl : l ≤ 900) (hi : i.natAbs ≤ 2 ^ 53) : own_D l i (ddiv a b) := by
  unfold own_D
  unfold DInt at ha hb
  have hp := Nat.two_pow_pos l
  rw [val64_ddiv]
  cases hva : val64 a with
  | nan => rw [hva] at ha; exact ha.elim
  | inf => rw [hva] at ha; exact ha.elim
  | fin s x q =>
  cases hvb : val64 b with
  | nan => rw [hvb] at hb; exact hb.elim
  | inf => rw [hvb] at hb; exact hb.elim
  | fin t y r =>
  rw [hva] at ha; rw [hvb] at hb
  have hy : y ≠ 0 := fun z => by have := (whole_zero hb).mp z; omega
  have h1 := whole_natAbs ha
  have h2 := whole_natAbs hb
  rw [Int.natAbs_natCast] at h2
  have e : quotient b64 (.fin s x q) (.fin t y r) = round b64 (.fin (s != t) i.natAbs (-l)) := by
    show (if y = 0 then _ else roundRatio b64 (s != t) x y (q - r)) = roundRatio b64 (s != t) i.natAbs 1 (-l)
    rw [if_neg hy]
    refine roundRatio_congr (Nat.pos_of_ne_zero hy) (by decide) ?_
    have e1 : (q - r - -(l : Int)).toNat + (-q).toNat + r.toNat = (-(l : Int) - (q - r)).toNat + q.toNat + (-r).toNat + l := by omega
    have p1 := Nat.two_pow_pos (q.toNat)
    have p2 := Nat.two_pow_pos ((-q).toNat)
    have p3 := Nat.two_pow_pos (r.toNat)
    have p4 := Nat.two_pow_pos ((-r).toNat)
    refine Nat.eq_of_mul_eq_mul_right (Nat.mul_pos hp (Nat.mul_pos (Nat.mul_pos p1 p2) (Nat.mul_pos p3 p4))) ?_
    calc x * 1 * 2 ^ (q - r - -(l : Int)).toNat * (2 ^ l * (2 ^ q.toNat * 2 ^ (-q).toNat * (2 ^ r.toNat * 2 ^ (-r).toNat)))
        = (x * 2 ^ q.toNat) * (2 ^ l * 2 ^ (-r).toNat) * (2 ^ ((q - r - -(l : Int)).toNat + (-q).toNat + r.toNat)) := by simp only [Nat.pow_add, Nat.mul_one]; ac_rfl
      _ = (i.natAbs * 2 ^ (-q).toNat) * (y * 2 ^ r.toNat) * (2 ^ ((-(l : Int) - (q - r)).toNat + q.toNat + (-r).toNat + l)) := by rw [h1, h2, e1]
      _ = i.natAbs * y * 2 ^ (-(l : Int) - (q - r)).toNat * (2 ^ l * (2 ^ q.toNat * 2 ^ (-q).toNat * (2 ^ r.toNat * 2 ^ (-r).toNat))) := by simp only [Nat.pow_add]; ac_rfl
  rw [e]
  refine own_Dy_round hl hi ?_
  show Whole i (.fin (s != t) i.natAbs (-(l : Int) + l))
  rw [show -(l : Int) + l = 0 by omega]
  show signed (s != t) (i.natAbs * 1) = i * ((1 : Nat) : Int)
  rw [Nat.mul_one]
  by_cases i0 : i = 0
  · rw [i0]; simp [signed]
  · have hd : decide (((2 ^ l : Nat) : Int) < 0) = false := decide_eq_false (by omega)
    rw [whole_sign ha i0, whole_sign hb (by omega), hd]
    unfold signed
    by_cases z : i < 0 <;> simp [z] <;> omega
theorem own_Dw_down {i : Int} {s : Bool} {c : Nat} {q : Int} (l : Nat) (h : Whole (i * ((2 ^ l : Nat) : Int)) (.fin s c (q + l))) : Whole i (.fin s c q) := by
  have h1 : signed s (c * 2 ^ (q + l).toNat) = i * ((2 ^ l : Nat) : Int) * ((2 ^ (-(q + l)).toNat : Nat) : Int) := h
  show signed s (c * 2 ^ q.toNat) = i * ((2 ^ (-q).toNat : Nat) : Int)
  have p : ((2 ^ l * 2 ^ (-(q + l)).toNat : Nat) : Int) ≠ 0 := by have := Nat.mul_pos (Nat.two_pow_pos l) (Nat.two_pow_pos (-(q + l)).toNat); omega
  refine Int.eq_of_mul_eq_mul_right p ?_
  have e : q.toNat + (l + (-(q + l)).toNat) = (q + l).toNat + (-q).toNat := by omega
  calc signed s (c * 2 ^ q.toNat) * ((2 ^ l * 2 ^ (-(q + l)).toNat : Nat) : Int) = signed s (c * 2 ^ (q.toNat + (l + (-(q + l)).toNat))) := by rw [← signed_mul, Nat.pow_add 2 q.toNat, Nat.pow_add 2 l, Nat.mul_assoc c]
    _ = signed s (c * 2 ^ (q + l).toNat * 2 ^ (-q).toNat) := by rw [e, Nat.pow_add, Nat.mul_assoc]
    _ = i * ((2 ^ (-q).toNat : Nat) : Int) * ((2 ^ l * 2 ^ (-(q + l)).toNat : Nat) : Int) := by rw [signed_mul, h1, Int.natCast_mul]; ac_rfl
theorem own_D_down {k l : Nat} {i : Int} {x : UInt64} (h : own_D (k + l) (i * ((2 ^ l : Nat) : Int)) x) : own_D k i x := by
  unfold own_D own_Dy at *
  cases hv : val64 x with
  | nan => rw [hv] at h; exact h.elim
  | inf => rw [hv] at h; exact h.elim
  | fin s c q =>
    rw [hv] at h
    have h' : Whole (i * ((2 ^ l : Nat) : Int)) (.fin s c (q + ((k + l : Nat) : Int))) := h
    rw [show q + ((k + l : Nat) : Int) = q + k + l by omega] at h'
    exact own_Dw_down l h'
theorem own_one3 : own_D 3 8 Jvm.FP.dconst1 := by
  have h : DInt 1 Jvm.FP.dconst1 := by
    show Whole 1 (val64 dconst1)
    rw [val64_dconst1]; show signed false (2 ^ 52 * 2 ^ (-52 : Int).toNat) = 1 * ((2 ^ (-(-52 : Int)).toNat : Nat) : Int); decide
  exact own_D_up (k := 0) (i := 1) 3 (own_D_int h)
theorem own_one6 : own_D 6 64 Jvm.FP.dconst1 := own_D_up (k := 3) (i := 8) 3 own_one3
theorem own_zero6 : own_D 6 0 0 := by
  have h : DInt 0 (0 : UInt64) := by
    show Whole 0 (val64 dconst0)
    rw [val64_dconst0]; simp [Whole, signed]
  exact own_D_up (k := 0) (i := 0) 6 (own_D_int h)
theorem own_node {k Wh Wl W : Int} {p a b : UInt64} (hp : own_D 3 k p) (ha : own_D 6 Wh a) (hb : own_D 6 Wl b) (k0 : 0 ≤ k) (k8 : k ≤ 8) (h0 : 0 ≤ Wh) (h1 : Wh ≤ 64) (l0 : 0 ≤ Wl) (l1 : Wl ≤ 64) (hW : 8 * W = k * Wh + (8 - k) * Wl) :
    own_D 9 (k * Wh) (Jvm.FP.dmul p a) ∧ own_D 3 (8 - k) (Jvm.FP.dsub Jvm.FP.dconst1 p) ∧ own_D 9 ((8 - k) * Wl) (Jvm.FP.dmul (Jvm.FP.dsub Jvm.FP.dconst1 p) b) ∧ own_D 6 W (Jvm.FP.dadd (Jvm.FP.dmul p a) (Jvm.FP.dmul (Jvm.FP.dsub Jvm.FP.dconst1 p) b)) := by
  have b1 : 0 ≤ k * Wh := Int.mul_nonneg k0 h0
  have b2 : k * Wh ≤ 8 * 64 := Int.mul_le_mul k8 h1 h0 (by decide)
  have b3 : 0 ≤ (8 - k) * Wl := Int.mul_nonneg (by omega) l0
  have b4 : (8 - k) * Wl ≤ 8 * 64 := Int.mul_le_mul (by omega) l1 l0 (by decide)
  have m1 := own_D_mul hp ha (by decide) (by omega)
  have s1 := own_D_sub own_one3 hp (by decide) (by omega)
  have m2 := own_D_mul s1 hb (by decide) (by omega)
  refine ⟨m1, s1, m2, ?_⟩
  have a1 := own_D_add m1 m2 (by decide) (by omega)
  rw [← hW] at a1
  refine own_D_down (k := 6) (l := 3) ?_
  rw [show W * ((2 ^ 3 : Nat) : Int) = 8 * W by rw [Int.mul_comm]; rfl]
  exact a1
end Own
namespace Jvm.Pilot.@@N@@
open Jvm Jvm.ClassFile Sem Op Lib Jvm.Free Jvm.Stand Jvm.LawKit Jvm.RoadKit Bundle Jvm.Pilot.@@N@@.Jvm.D
theorem own_stak {Z : State} {h h' : Heap} {C n d : String} {v : Value} {ws : List Addr} (F : Sta Z h C n d v) (K : Keep h h' ws) (q : ∀ x ∈ ws, ∀ c : Cell, h[x]? = some c → c.vm.isStatics = false) : Sta Z h' C n d v := by
  obtain ⟨cf, i, k, f, st, cell, h1, h2, h3, h4, h5, h6, h7⟩ := F
  refine ⟨cf, i, k, f, st, cell, h1, h2, h3, h4, K.2.1 st cell h5 (fun hm => ?_), h6, h7⟩
  have e := q st hm cell h5
  rw [h6] at e; cases e
theorem own_exns {Z : State} {h : Heap} {a : Addr} {C : String} (E : Exa Z h a C) : ∀ c : Cell, h[a]? = some c → c.vm.isStatics = false := fun c hc => by
  obtain ⟨c', k, e1, -, -, e4, -⟩ := E
  cases hc.symm.trans e1; exact e4
theorem own_arns {Z : State} {h : Heap} {a : Addr} {k : ClassId} {ty : FieldType} {z : Int32} {vs : List Value} {d : Value} (A : Arv Z h a k ty z vs d) : ∀ c : Cell, h[a]? = some c → c.vm.isStatics = false := fun c hc => by
  obtain ⟨c', A', -⟩ := A
  have e := A'.plain
  cases hc.symm.trans A'.1; exact e
abbrev oS (p : Program) (e : Env) (below : List Frame) (T : State) (g : JFrame) (t : State) : Prop := Steps p.tables e below (T.setTop g) t
theorem own_w (i : Nat) {d : Jvm.Cond} (h : tables_1[i]? = some d) : d ∈ tables_1 := List.mem_of_getElem? h
abbrev own_Met (l : Launch) (y : MethodName) (bytes : ByteArray) (maxL : Nat) (ret : Option FieldType) (ws : List Jvm.Cond) (rm : Room) (as' : Array Value) (Z : State) (h0 : Heap) (Q : Option Value → Heap → List Loc → Prop) : Prop :=
  MetFree l y (head1 (Jvm.Cond.code y bytes maxL ret :: ws) rm) (fun aU U => aU = as' ∧ Z.Warmed39 U.vm ∧ U.heap = h0) (fun _ _ _ _ _ => True) (fun _ U oU U' => ∃ vU LU, oU = .returned vU ∧ Q vU U'.heap LU ∧ FrameEnd U oU U' LU rm.cells rm.slots)
theorem own_weak {l : Launch} {y : MethodName} {bytes : ByteArray} {maxL : Nat} {ret : Option FieldType} {ws : List Jvm.Cond} {rm : Room} {as' : Array Value} {Z : State} {h0 : Heap} {Q Q' : Option Value → Heap → List Loc → Prop} (h : own_Met l y bytes maxL ret ws rm as' Z h0 Q) (hq : ∀ v t L, Q v t L → Q' v t L) : own_Met l y bytes maxL ret ws rm as' Z h0 Q' := by
  intro p e ha hc hk s m args below hf happ hP hK
  obtain ⟨n, o, h1, h2, h3, v, L, h4, h5, h6⟩ := h p e ha hc hk s m args below hf happ hP hK
  exact ⟨n, o, h1, h2, h3, v, L, h4, hq _ _ _ h5, h6⟩
theorem own_start {p : Program} {l : Launch} {y : MethodName} {ws : List Jvm.Cond} {rm : Room} {code : ByteArray} {maxL : Nat} {ret : Option FieldType} {e : Env} {s : State} {m : MethodId} {args : Array Value} {below : List Frame} {meth : Method} {c : Code} {s₁ : State} {h0 : Heap}
    (Bd : BodyLoose p l y (head1 ws rm) code maxL ret e s m args below meth c s₁) (hml : c.maxLocals = maxL) (hh : s.heap = h0) :
    p.tables.exec = Jvm.exec ∧ c.code = code ∧ s.vm.findClass y.cls = some m.cls ∧ meth.name = y.name ∧ Stand p l e rm s m args below meth c s₁ [] 0 0 ∧ s₁.heap = h0 :=
  ⟨Bd.exec, Bd.bytes, findClass_of_methodNamed Bd.named, (name_of_methodNamed Bd.named Bd.method).1, Stand.of_body Bd, by rw [← hh, Bd.state]; rfl⟩
section OwnCalls
variable {p : Program} {l : Launch} {e : Env} {R : Room} {s : State} {m : MethodId} {args : Array Value} {below : List Frame} {meth : Method} {c : Code} {T : State} {locs : List Loc} {cells slots : Nat} {Z : State} {a0 : Array Value} {h : Heap}
  {own : String} {index : Nat} {y z : MethodName} {bytes : ByteArray} {maxL : Nat} {ret : Option FieldType} {rm : Room} {W : Nat} {as' : Array Value} {Q : Option Value → Heap → List Loc → Prop}
theorem own_callS (X : Stand p l e R s m args below meth c T locs cells slots) (hx : p.tables.exec = Jvm.exec) (hZ : Z.Warmed39 s.vm) (hown : s.vm.findClass own = some m.cls) (hlink : (Cond.methodLink own index y).before a0 Z = true) (hstat : (Cond.static y).before a0 Z = true) (hinit : (Cond.initialized y.cls).before a0 Z = true)
    (hcode : (Cond.code y bytes maxL ret).before a0 Z = true) (hy : y.cls ≠ "java/lang/invoke/MethodHandle" ∧ y.cls ≠ "java/lang/invoke/VarHandle")
    (hM : own_Met l y bytes maxL ret [] rm as' Z h Q)
    (hf : rm.frames + 1 ≤ R.frames) (hl : W + (maxL + 11) + rm.locals ≤ R.locals) {g : JFrame} (hg : g.method = m) (hsize : g.locals.size = c.maxLocals) {argsL rest : List Value} (hlen : ∀ sig, parseMethodDescriptor y.desc = some sig → argsL.length = sig.parameters.length)
    (hstack : g.stack = argsL.reverse ++ rest) (hdg : decode c.code g.pc = .ok (.invokestatic index, 3)) (has : argsL.toArray = as') (eT : T.heap = h) (hc : cells + rm.cells ≤ R.cells) (hs : slots + rm.slots ≤ R.slots) (hW : 2 * g.monitorRoom + (rest.map fun v => v.category).sum ≤ W := by show 2 * 0 + _ ≤ _; exact Nat.le_of_eq rfl) :
    ∃ (v : Option Value) (T' : State) (L : List Loc), Stand p l e R s m args below meth c T' (locs ++ L) (cells + rm.cells) (slots + rm.slots) ∧ Q v T'.heap L ∧ ∀ target, Steps p.tables e below (T'.setTop { g with pc := g.pc + 3, stack := v.toList ++ rest }) target → Steps p.tables e below (T.setTop g) target := by
  obtain ⟨v, _, ⟨T3, L3, k3, n3⟩, -, X3, ⟨Lc3, hQ3, l3, y3, z3⟩, st3⟩ := Jvm.LawKit.callS X hx hown (mvT hZ hlink) (mvT hZ hstat) (mvT hZ hinit) (mvT hZ hcode) hy (backOf (W := W) hM hZ hcode hinit hf hl) hg hsize hlen hstack hW hdg (fun _ _ => ⟨has, eT, hc, hs⟩)
  dsimp only [Pt.U, Pt.locs, Pt.cells, Pt.slots] at X3 l3 y3 z3 st3 hQ3
  subst l3 y3 z3
  exact ⟨v, T3, Lc3, X3, hQ3, st3⟩
theorem own_special (X : Stand p l e R s m args below meth c T locs cells slots) (hx : p.tables.exec = Jvm.exec) (hZ : Z.Warmed39 s.vm) (hy1 : y.name = "<init>") (hown : s.vm.findClass own = some m.cls) (hlink : (Cond.methodLink own index y).before a0 Z = true) (hinst : (Cond.instanceMethod y).before a0 Z = true)
    (hcode : (Cond.code y bytes maxL none).before a0 Z = true) (hinit : (Cond.initialized y.cls).before a0 Z = true) (hy : y.cls ≠ "java/lang/invoke/MethodHandle" ∧ y.cls ≠ "java/lang/invoke/VarHandle")
    (hM : own_Met l y bytes maxL none [] rm as' Z h Q)
    (hf : rm.frames + 1 ≤ R.frames) (hl : W + (maxL + 11) + rm.locals ≤ R.locals) {g : JFrame} (hg : g.method = m) (hsize : g.locals.size = c.maxLocals) {a : Addr} {argsL rest : List Value} (hlen : ∀ sig, parseMethodDescriptor y.desc = some sig → argsL.length = sig.parameters.length)
    (hstack : g.stack = argsL.reverse ++ .ref a :: rest) (hdg : decode c.code g.pc = .ok (.invokespecial index, 3)) (has : (.ref a :: argsL).toArray = as') (eT : T.heap = h) (hc : cells + rm.cells ≤ R.cells) (hs : slots + rm.slots ≤ R.slots) (hW : 2 * g.monitorRoom + (rest.map fun v => v.category).sum ≤ W := by show 2 * 0 + _ ≤ _; exact Nat.le_of_eq rfl) :
    ∃ (v : Option Value) (T' : State) (L : List Loc), Stand p l e R s m args below meth c T' (locs ++ L) (cells + rm.cells) (slots + rm.slots) ∧ Q v T'.heap L ∧ ∀ target, Steps p.tables e below (T'.setTop { g with pc := g.pc + 3, stack := v.toList ++ rest }) target → Steps p.tables e below (T.setTop g) target := by
  obtain ⟨v, _, ⟨T3, L3, k3, n3⟩, -, X3, ⟨Lc3, hQ3, l3, y3, z3⟩, st3⟩ := X.specialBack hx hy1 hown (mvT hZ hlink) (mvT hZ hinst) (mvT hZ hcode) hy (backOf (W := W) hM hZ hcode hinit hf hl) hg hsize (Steps.refl _) hlen hstack hW hdg (fun _ _ => ⟨has, eT, hc, hs⟩)
  dsimp only [Pt.U, Pt.locs, Pt.cells, Pt.slots] at X3 l3 y3 z3 st3 hQ3
  subst l3 y3 z3
  exact ⟨v, T3, Lc3, X3, hQ3, fun target k => st3.trans k⟩
theorem own_virtual (X : Stand p l e R s m args below meth c T locs cells slots) (hx : p.tables.exec = Jvm.exec) (hZ : Z.Warmed39 s.vm) {C : String} (hown : s.vm.findClass own = some m.cls) (hlink : (Cond.methodLink own index y).before a0 Z = true) (hdecl : (Cond.declares y).before a0 Z = true) (hnf : NotFace s y) (hsel : (Cond.selects C y z).before a0 Z = true) (hinst : (Cond.instanceMethod z).before a0 Z = true)
    (hcode : (Cond.code z bytes maxL ret).before a0 Z = true) (hinit : (Cond.initialized z.cls).before a0 Z = true) (hy : y.cls ≠ "java/lang/invoke/MethodHandle" ∧ y.cls ≠ "java/lang/invoke/VarHandle")
    (hM : own_Met l z bytes maxL ret [] rm as' Z h Q)
    (hf : rm.frames + 1 ≤ R.frames) (hl : W + (maxL + 11) + rm.locals ≤ R.locals) {a : Addr} (E : Exa Z h a C) {g : JFrame} (hg : g.method = m) (hsize : g.locals.size = c.maxLocals) {argsL rest : List Value} (hlen : ∀ sig, parseMethodDescriptor y.desc = some sig → argsL.length = sig.parameters.length)
    (hstack : g.stack = argsL.reverse ++ .ref a :: rest) (hdg : decode c.code g.pc = .ok (.invokevirtual index, 3)) (has : (.ref a :: argsL).toArray = as') (eT : T.heap = h) (hc : cells + rm.cells ≤ R.cells) (hs : slots + rm.slots ≤ R.slots) (hW : 2 * g.monitorRoom + (rest.map fun v => v.category).sum ≤ W := by show 2 * 0 + _ ≤ _; exact Nat.le_of_eq rfl) :
    ∃ (v : Option Value) (T' : State) (L : List Loc), Stand p l e R s m args below meth c T' (locs ++ L) (cells + rm.cells) (slots + rm.slots) ∧ Q v T'.heap L ∧ ∀ target, Steps p.tables e below (T'.setTop { g with pc := g.pc + 3, stack := v.toList ++ rest }) target → Steps p.tables e below (T.setTop g) target := by
  obtain ⟨cq, kq, qa, qb, qc⟩ := isOf hZ eT E
  obtain ⟨v, _, ⟨T3, L3, k3, n3⟩, -, X3, ⟨Lc3, hQ3, l3, y3, z3⟩, st3⟩ := X.virtualBack hx hown (mvT hZ hlink) (mvT hZ hdecl) hnf (mvT hZ hsel) (mvT hZ hinst) hy (backOf (W := W) hM hZ hcode hinit hf hl) qa qc hg hsize (Steps.refl _) hlen hstack hW hdg (fun _ _ => ⟨has, eT, hc, hs⟩)
  dsimp only [Pt.U, Pt.locs, Pt.cells, Pt.slots] at X3 l3 y3 z3 st3 hQ3
  subst l3 y3 z3
  exact ⟨v, T3, Lc3, X3, hQ3, fun target k => st3.trans k⟩
end OwnCalls
abbrev mN0 : MethodName := ⟨"java/util/Arrays", "fill", "([II)V"⟩
abbrev mN1 : MethodName := ⟨"com/example/prolong/prolong/tree/DecisionDiagram", "emptyTable", "(I)[I"⟩
abbrev mN2 : MethodName := ⟨"com/example/prolong/prolong/tree/DecisionDiagram", "<init>", "()V"⟩
abbrev mN3 : MethodName := ⟨"com/example/prolong/prolong/tree/DecisionDiagram", "mix", "(III)I"⟩
abbrev mN4 : MethodName := ⟨"com/example/prolong/prolong/tree/DecisionDiagram", "node", "(III)I"⟩
abbrev mN5 : MethodName := ⟨"com/example/prolong/prolong/tree/DecisionDiagram", "variable", "(I)I"⟩
abbrev mN6 : MethodName := ⟨"com/example/prolong/prolong/tree/DecisionDiagram", "cacheSlot", "(III)I"⟩
abbrev mN7 : MethodName := ⟨"com/example/prolong/prolong/tree/DecisionDiagram", "known", "(III)I"⟩
abbrev mN8 : MethodName := ⟨"java/lang/Math", "min", "(II)I"⟩
abbrev mN9 : MethodName := ⟨"com/example/prolong/prolong/tree/DecisionDiagram", "top", "(III)I"⟩
abbrev mN10 : MethodName := ⟨"com/example/prolong/prolong/tree/DecisionDiagram", "cofactor", "(IIZ)I"⟩
abbrev mN11 : MethodName := ⟨"com/example/prolong/prolong/tree/DecisionDiagram", "remember", "(IIII)V"⟩
abbrev mN12 : MethodName := ⟨"com/example/prolong/prolong/tree/DecisionDiagram$Frames", "<init>", "()V"⟩
abbrev mN13 : MethodName := ⟨"com/example/prolong/prolong/tree/DecisionDiagram$Frames", "push", "(IIII)V"⟩
abbrev mN14 : MethodName := ⟨"com/example/prolong/prolong/tree/DecisionDiagram$Frames", "settle", "(II)V"⟩
abbrev mN15 : MethodName := ⟨"com/example/prolong/prolong/tree/DecisionDiagram", "ite", "(III)I"⟩
abbrev mN16 : MethodName := ⟨"java/lang/Math", "max", "(II)I"⟩
abbrev mN17 : MethodName := ⟨"com/example/prolong/prolong/tree/DecisionDiagram", "probability", "(I[D)D"⟩
abbrev mN18 : MethodName := ⟨"com/example/prolong/prolong/tree/DecisionDiagramProbabilityPinLaw", "leaf", "(I)I"⟩
theorem own_private {p : Program} {l : Launch} {e : Env} {R : Room} {s : State} {m : MethodId} {args : Array Value} {below : List Frame} {meth : Method} {c : Code} {T : State} {locs : List Loc} {cells slots : Nat} {Z : State} {a0 : Array Value} {h : Heap}
    {own : String} {index n : Nat} {y : MethodName} {bytes : ByteArray} {maxL : Nat} {ret : Option FieldType} {rm : Room} {W : Nat} {as' : Array Value} {Q : Option Value → Heap → List Loc → Prop}
    (X : Stand p l e R s m args below meth c T locs cells slots) (hx : p.tables.exec = Jvm.exec) (hZ : Z.Warmed39 s.vm) {C : String} (hown : s.vm.findClass own = some m.cls) (hlink : (Cond.methodLink own index y).before a0 Z = true) (hins : (Cond.instantiable y.cls n).before a0 Z = true) (hpriv : (Cond.privateMethod y).before a0 Z = true) (hinst : (Cond.instanceMethod y).before a0 Z = true)
    (hcode : (Cond.code y bytes maxL ret).before a0 Z = true) (hinit : (Cond.initialized y.cls).before a0 Z = true) (hy : y.cls ≠ "java/lang/invoke/MethodHandle" ∧ y.cls ≠ "java/lang/invoke/VarHandle")
    (hM : own_Met l y bytes maxL ret [] rm as' Z h Q)
    (hf : rm.frames + 1 ≤ R.frames) (hl : W + (maxL + 11) + rm.locals ≤ R.locals) {a : Addr} (E : Exa Z h a C) {g : JFrame} (hg : g.method = m) (hsize : g.locals.size = c.maxLocals) {argsL rest : List Value} (hlen : ∀ sig, parseMethodDescriptor y.desc = some sig → argsL.length = sig.parameters.length)
    (hstack : g.stack = argsL.reverse ++ .ref a :: rest) (hdg : decode c.code g.pc = .ok (.invokevirtual index, 3)) (has : (.ref a :: argsL).toArray = as') (eT : T.heap = h) (hc : cells + rm.cells ≤ R.cells) (hs : slots + rm.slots ≤ R.slots) (hW : 2 * g.monitorRoom + (rest.map fun v => v.category).sum ≤ W := by show 2 * 0 + _ ≤ _; exact Nat.le_of_eq rfl) :
    ∃ (v : Option Value) (T' : State) (L : List Loc), Stand p l e R s m args below meth c T' (locs ++ L) (cells + rm.cells) (slots + rm.slots) ∧ Q v T'.heap L ∧ ∀ target, Steps p.tables e below (T'.setTop { g with pc := g.pc + 3, stack := v.toList ++ rest }) target → Steps p.tables e below (T.setTop g) target := by
  obtain ⟨cq, qa, qc⟩ := E.cell
  have hP : s.PrivateAt y := Cond.privateMethod_at (mvP hZ hpriv (args := #[]))
  obtain ⟨c1, k1, hc1, hk1, -, hniab, -, -⟩ := Cond.instantiable_spec (mvT hZ hins (args := #[]))
  have hsel := selects_self_of_private (args := args) hc1 hk1 (Bool.or_eq_false_iff.mp hniab).1 hP (mvT hZ hinst) hy
  obtain ⟨v, _, ⟨T3, L3, k3, n3⟩, -, X3, ⟨Lc3, hQ3, l3, y3, z3⟩, st3⟩ := X.privateBack hx hown (mvT hZ hlink) (mvT hZ hinst) hsel hP (mvT hZ hcode) hy (backOf (W := W) hM hZ hcode hinit hf hl) hg hsize (Steps.refl _) (by rw [eT]; exact qa) qc hlen hstack hW hdg (fun _ _ => ⟨has, eT, hc, hs⟩)
  dsimp only [Pt.U, Pt.locs, Pt.cells, Pt.slots] at X3 l3 y3 z3 st3 hQ3
  subst l3 y3 z3
  exact ⟨v, T3, Lc3, X3, hQ3, fun target k => st3.trans k⟩
theorem own_initRef {p : Program} {l : Launch} {e : Env} {R : Room} {s : State} {m : MethodId} {args : Array Value} {below : List Frame} {meth : Method} {c : Code} {T : State} {locs : List Loc} {cells slots : Nat} {Z : State} {a0 : Array Value} {h : Heap}
    {own : String} {index : Nat} {y : MethodName} {bytes : ByteArray} {maxL : Nat} {rm : Room} {W : Nat} {as' : Array Value} {Q : Option Value → Heap → List Loc → Prop}
    (X : Stand p l e R s m args below meth c T locs cells slots) (hx : p.tables.exec = Jvm.exec) (hZ : Z.Warmed39 s.vm) (hy1 : y.name = "<init>") (hown : s.vm.findClass own = some m.cls) (href : (Cond.methodRef own index y).before a0 Z = true) (hinst : (Cond.instanceMethod y).before a0 Z = true)
    (hcode : (Cond.code y bytes maxL none).before a0 Z = true) (hinit : (Cond.initialized y.cls).before a0 Z = true) (hy : y.cls ≠ "java/lang/invoke/MethodHandle" ∧ y.cls ≠ "java/lang/invoke/VarHandle")
    (hM : own_Met l y bytes maxL none [] rm as' Z h Q)
    (hf : rm.frames + 1 ≤ R.frames) (hl : W + (maxL + 11) + rm.locals ≤ R.locals) {g : JFrame} (hg : g.method = m) (hsize : g.locals.size = c.maxLocals) {a : Addr} {argsL rest : List Value} (hlen : ∀ sig, parseMethodDescriptor y.desc = some sig → argsL.length = sig.parameters.length)
    (hstack : g.stack = argsL.reverse ++ .ref a :: rest) (hdg : decode c.code g.pc = .ok (.invokespecial index, 3)) (has : (.ref a :: argsL).toArray = as') (eT : T.heap = h) (hc : cells + rm.cells ≤ R.cells) (hs : slots + rm.slots ≤ R.slots) (hW : 2 * g.monitorRoom + (rest.map fun v => v.category).sum ≤ W := by show 2 * 0 + _ ≤ _; exact Nat.le_of_eq rfl) :
    ∃ (v : Option Value) (T' : State) (L : List Loc), Stand p l e R s m args below meth c T' (locs ++ L) (cells + rm.cells) (slots + rm.slots) ∧ Q v T'.heap L ∧ ∀ target, Steps p.tables e below (T'.setTop { g with pc := g.pc + 3, stack := v.toList ++ rest }) target → Steps p.tables e below (T.setTop g) target := by
  have hZT : Z.Warmed39 T.vm := wtrans hZ X.warmed
  obtain ⟨mkZ, methZ, hnZ, -⟩ := Cond.instanceMethod_spec hinst
  have hrT := Cond.methodRef_warmed39 (vm' := T.vm) hZT hnZ hy href
  have hown' : (Z.setVm T.vm).vm.findClass own = some m.cls := by
    show T.vm.findClass own = _; rw [X.warmed.alike.findClass]; exact hown
  obtain ⟨mk, methM, hnamed, hmethM, hstM, habM⟩ := Cond.instanceMethod_spec (mvT hZ hinst (args := args))
  obtain ⟨methM', cM, hmethM', -, -, -, -, -, -, hsigM⟩ := Cond.code_spec hnamed (mvT hZ hcode (args := args))
  cases hmethM.symm.trans hmethM'
  obtain ⟨kO, hkO, hnameO⟩ := className_of_methodNamed hnamed
  obtain ⟨hnameMO, hdescO⟩ := name_of_methodNamed hnamed hmethM
  have hX₁ := X.noted X.warmed
  have hnT : (Z.setVm T.vm).methodNamed? y = some mk := hX₁.named hnamed
  obtain ⟨m', c', hm', hready, hfc, hnr⟩ := Cond.methodRef_named e hown' hrT
  cases hm'.symm.trans (State.methodFound?_of_named hnT hy)
  cases hfc.symm.trans (findClass_of_methodNamed hnT)
  obtain ⟨kT, hkT, -⟩ := X.warmed.alike.2.2 _ _ hkO
  have hmT : T.vm.method? mk = some methM := by rw [X.warmed.alike.method?]; exact hmethM
  have hfound : lookupSpecial T.vm mk.cls "<init>" methM.desc = .method mk := by
    rw [X.warmed.alike.lookupSpecial, hdescO, ← hy1]; exact lookupSpecial_of_named hnamed hmethM hstM
  subst hg
  have hstep : ∀ target, (∀ acts, Steps p.tables e below (doInvoke e ((T.setVm T.vm).setTop { g with stack := rest }) acts mk (.ref a :: argsL).toArray).1 target) → Steps p.tables e below (T.setTop g) target := by
    intro target hrest
    jvm_step X.here [hx, hdg, invokespecial.wp_init (e := e) (s := T) (k := kT) (meth := methM) (m := mk) (a := a) (args := argsL) (rest := rest) (f := g) X.here.top hnr hready hkT hmT (by rw [hnameMO]; exact hy1) hstM habM hfound (hlen _ hsigM) hstack]
    exact hrest
  obtain ⟨v, ⟨T3, L3, k3, n3⟩, X3, ⟨Lc3, hQ3, l3, y3, z3⟩, st3⟩ := (backOf (W := W) hM hZ hcode hinit hf hl) g.method meth c ⟨T.setVm T.vm, locs, cells, slots⟩ { g with stack := rest } (.invokespecial index) mk (.ref a :: argsL).toArray hX₁ rfl hsize hdg hW (hX₁.named hnamed) ⟨has, eT, hc, hs⟩
  dsimp only [Pt.U, Pt.locs, Pt.cells, Pt.slots] at X3 l3 y3 z3 st3 hQ3
  subst l3 y3 z3
  exact ⟨v, T3, Lc3, X3, hQ3, fun target k => (hstep _ fun acts => by rw [doInvoke_state]; exact Steps.refl _).trans (st3.trans k)⟩
def own_n (i : Nat) : Int32 := Int32.ofNat i
theorem own_nI {i : Nat} (h : i < 2147483648) : (own_n i).toInt = i := by
  unfold own_n
  rw [Int32.toInt_ofNat_of_lt (by omega)]
theorem own_nc {i : Nat} (h : i < 2147483648) : (own_n i).toNatClampNeg = i := by
  have := own_nI h
  simp [Int32.toNatClampNeg, this]
theorem own_ninj {i j : Nat} (hi : i < 2147483648) (hj : j < 2147483648) (h : own_n i = own_n j) : i = j := by
  have := congrArg Int32.toInt h
  rw [own_nI hi, own_nI hj] at this; omega
theorem own_nne {i j : Nat} (hi : i < 2147483648) (hj : j < 2147483648) (h : ¬ i = j) : ¬ own_n i = own_n j := fun q => h (own_ninj hi hj q)
theorem own_nlt {i j : Nat} (hi : i < j) (hj : j < 2147483648) : ¬ own_n i < 0 ∧ own_n i < own_n j := by
  simp only [Int32.lt_iff_toInt_lt, own_nI hj, own_nI (Nat.lt_trans hi hj), show (0 : Int32).toInt = 0 from rfl]; omega
theorem own_nm {i : Nat} (h : i < 2147483648) : ¬ own_n i = (-1 : Int32) := fun q => by
  have := congrArg Int32.toInt q
  rw [own_nI h, show (-1 : Int32).toInt = -1 from rfl] at this; omega
theorem own_nge {i : Nat} (h : i < 2147483648) : ¬ own_n i < 0 := by
  simp only [Int32.lt_iff_toInt_lt, own_nI h, show (0 : Int32).toInt = 0 from rfl]; omega
theorem own_nadd {i : Nat} (h : i + 1 < 2147483648) : own_n i + 1 = own_n (i + 1) := by
  rw [← Int32.toInt_inj, own_nI h]
  have h1 := c_iadd (own_n i) 1
  rw [own_nI (by omega), show (1 : Int32).toInt = 1 from rfl] at h1
  have h2 := rng32 (own_n i + 1)
  omega
def own_vl (n : Nat) (g : Nat → Int32) : List Value := (List.range n).map fun i => Value.int (g i)
theorem own_vlen (n : Nat) (g : Nat → Int32) : (own_vl n g).length = n := by simp [own_vl]
theorem own_vget {n : Nat} {g : Nat → Int32} {k : Nat} {d : Value} (hk : k < n) : (own_vl n g).getD k d = .int (g k) := by
  simp [own_vl, List.getD_eq_getElem?_getD, hk]
def own_up (g : Nat → Int32) (k : Nat) (y : Int32) (i : Nat) : Int32 := if i = k then y else g i
theorem own_vset (n : Nat) (g : Nat → Int32) (k : Nat) (y : Int32) : (own_vl n g).set k (.int y) = own_vl n (own_up g k y) := by
  apply List.ext_getElem
  · simp [own_vl]
  · intro i h1 h2
    simp only [own_vl, List.getElem_set, List.getElem_map, List.getElem_range, own_up]
    by_cases q : k = i
    · rw [if_pos q, if_pos q.symm]
    · rw [if_neg q, if_neg (fun z => q z.symm)]
def own_Ar (Z : State) (h : Heap) (a : Addr) (n : Nat) (g : Nat → Int32) : Prop := ∃ k, Arv Z h a k .int (own_n n) (own_vl n g) (.int (0 : Int32))
section OwnAr
variable {Z : State} {h h' : Heap} {a b : Addr} {n : Nat} {g : Nat → Int32}
theorem own_Ar.lt (F : own_Ar Z h a n g) : a < h.size := by obtain ⟨k, A⟩ := F; exact A.lt
theorem own_Ar.ext (F : own_Ar Z h a n g) (E : Ext h h') : own_Ar Z h' a n g := by obtain ⟨k, A⟩ := F; exact ⟨k, A.ext E⟩
theorem own_Ar.other {sl : Nat} {v : Value} (F : own_Ar Z h b n g) (W : Wr h h' a sl v) (q : b ≠ a) : own_Ar Z h' b n g := by obtain ⟨k, A⟩ := F; exact ⟨k, A.other W q⟩
theorem own_Ar.keep {ws : List Addr} (F : own_Ar Z h a n g) (K : Keep h h' ws) (q : a ∉ ws) : own_Ar Z h' a n g := by obtain ⟨k, A⟩ := F; exact ⟨k, A.keep K q⟩
theorem own_Ar.ns (F : own_Ar Z h a n g) : ∀ c : Cell, h[a]? = some c → c.vm.isStatics = false := by obtain ⟨k, A⟩ := F; exact own_arns A
theorem own_Ar.eqv {g' : Nat → Int32} (F : own_Ar Z h a n g) (e : ∀ i, i < n → g i = g' i) : own_Ar Z h a n g' := by
  have q : own_vl n g = own_vl n g' := List.map_congr_left fun i hi => by rw [e i (List.mem_range.mp hi)]
  obtain ⟨k, A⟩ := F; rw [q] at A; exact ⟨k, A⟩
theorem own_new0 {k : ClassId} (n : Nat) (hn : n < 2147483648) (A : Arr Z h a (newA k .int (own_n n)) .int) : own_Ar Z h a n (fun _ => 0) := by
  refine ⟨k, (Arv.new A (own_nge hn)).pad (fun i => ?_)⟩
  by_cases q : i < n
  · rw [own_vget q]; rfl
  · rw [List.getD_eq_getElem?_getD, List.getElem?_eq_none (by rw [own_vlen]; omega)]; rfl
theorem own_inb {cl : Cell} {n k : Nat} (S : cl.slots.size = (own_n n).toNatClampNeg) (hn : n < 2147483648) (hk : k < n) : ¬ (own_n k < 0 ∨ cl.slots.size ≤ (own_n k).toNatClampNeg) := inb_of S (own_nlt hk hn)
theorem own_at {cl : Cell} {n k : Nat} {g : Nat → Int32} {d : Value} {v : Int32} (H : Has cl (own_vl n g) d) (S : cl.slots.size = (own_n n).toNatClampNeg) (hn : n < 2147483648) (hk : k < n) (ev : g k = v) : cl.slots[(own_n k).toNatClampNeg]? = some (.int v) := by
  rw [own_nc (by omega), H k (by rw [S, own_nc hn]; exact hk), own_vget hk, ev]
theorem own_arset {cl : Cell} {ck : ClassId} {n k : Nat} {y : Int32} (A : Arr Z h a cl .int) (q1 : cl.cls = ck) (S : cl.slots.size = (own_n n).toNatClampNeg) (q3 : ¬ own_n n < 0) (H : Has cl (own_vl n g) (.int (0 : Int32))) (G : ∀ i, i < cl.slots.size → fits .int ((own_vl n g).getD i (.int (0 : Int32))) = true) (W : Wr h h' a (own_n k).toNatClampNeg (.int y)) (hn : n < 2147483648) (hk : k < n) : own_Ar Z h' a n (own_up g k y) := by
  have q := Arv.set A q1 S q3 H G rfl W k (own_nc (by omega)) (by rw [own_vlen]; exact hk)
  rw [own_vset] at q; exact ⟨ck, q⟩
end OwnAr
theorem own_nd {L : List Addr} (h : L.Nodup) (i j : Nat) (hij : i < j) {x y : Addr} (hx : L[i]? = some x) (hy : L[j]? = some y) : x ≠ y := by
  obtain ⟨h1, rfl⟩ := List.getElem?_eq_some_iff.mp hx
  obtain ⟨h2, rfl⟩ := List.getElem?_eq_some_iff.mp hy
  exact List.pairwise_iff_getElem.mp h i j h1 h2 hij
def own_vd (n : Nat) (g : Nat → UInt64) : List Value := (List.range n).map fun i => Value.double (g i)
theorem own_vdlen (n : Nat) (g : Nat → UInt64) : (own_vd n g).length = n := by simp [own_vd]
theorem own_vdget {n : Nat} {g : Nat → UInt64} {k : Nat} {d : Value} (hk : k < n) : (own_vd n g).getD k d = .double (g k) := by
  simp [own_vd, List.getD_eq_getElem?_getD, hk]
def own_ud (g : Nat → UInt64) (k : Nat) (y : UInt64) (i : Nat) : UInt64 := if i = k then y else g i
theorem own_vdset (n : Nat) (g : Nat → UInt64) (k : Nat) (y : UInt64) : (own_vd n g).set k (.double y) = own_vd n (own_ud g k y) := by
  apply List.ext_getElem
  · simp [own_vd]
  · intro i h1 h2
    simp only [own_vd, List.getElem_set, List.getElem_map, List.getElem_range, own_ud]
    by_cases q : k = i
    · rw [if_pos q, if_pos q.symm]
    · rw [if_neg q, if_neg (fun z => q z.symm)]
def own_Ad (Z : State) (h : Heap) (a : Addr) (n : Nat) (g : Nat → UInt64) : Prop := ∃ k, Arv Z h a k .double (own_n n) (own_vd n g) (.double (0 : UInt64))
section OwnAd
variable {Z : State} {h h' : Heap} {a b : Addr} {n : Nat} {g : Nat → UInt64}
theorem own_Ad.lt (F : own_Ad Z h a n g) : a < h.size := by obtain ⟨k, A⟩ := F; exact A.lt
theorem own_Ad.ext (F : own_Ad Z h a n g) (E : Ext h h') : own_Ad Z h' a n g := by obtain ⟨k, A⟩ := F; exact ⟨k, A.ext E⟩
theorem own_Ad.other {sl : Nat} {v : Value} (F : own_Ad Z h b n g) (W : Wr h h' a sl v) (q : b ≠ a) : own_Ad Z h' b n g := by obtain ⟨k, A⟩ := F; exact ⟨k, A.other W q⟩
theorem own_Ad.keep {ws : List Addr} (F : own_Ad Z h a n g) (K : Keep h h' ws) (q : a ∉ ws) : own_Ad Z h' a n g := by obtain ⟨k, A⟩ := F; exact ⟨k, A.keep K q⟩
theorem own_Ad.ns (F : own_Ad Z h a n g) : ∀ c : Cell, h[a]? = some c → c.vm.isStatics = false := by obtain ⟨k, A⟩ := F; exact own_arns A
theorem own_newD {k : ClassId} (n : Nat) (hn : n < 2147483648) (A : Arr Z h a (newA k .double (own_n n)) .double) : own_Ad Z h a n (fun _ => 0) := by
  refine ⟨k, (Arv.new A (own_nge hn)).pad (fun i => ?_)⟩
  by_cases q : i < n
  · rw [own_vdget q]; rfl
  · rw [List.getD_eq_getElem?_getD, List.getElem?_eq_none (by rw [own_vdlen]; omega)]; rfl
theorem own_atD {cl : Cell} {n k : Nat} {g : Nat → UInt64} {d : Value} {v : UInt64} (H : Has cl (own_vd n g) d) (S : cl.slots.size = (own_n n).toNatClampNeg) (hn : n < 2147483648) (hk : k < n) (ev : g k = v) : cl.slots[(own_n k).toNatClampNeg]? = some (.double v) := by
  rw [own_nc (by omega), H k (by rw [S, own_nc hn]; exact hk), own_vdget hk, ev]
theorem own_arsetD {cl : Cell} {ck : ClassId} {n k : Nat} {y : UInt64} (A : Arr Z h a cl .double) (q1 : cl.cls = ck) (S : cl.slots.size = (own_n n).toNatClampNeg) (q3 : ¬ own_n n < 0) (H : Has cl (own_vd n g) (.double (0 : UInt64))) (G : ∀ i, i < cl.slots.size → fits .double ((own_vd n g).getD i (.double (0 : UInt64))) = true) (W : Wr h h' a (own_n k).toNatClampNeg (.double y)) (hn : n < 2147483648) (hk : k < n) : own_Ad Z h' a n (own_ud g k y) := by
  have q := Arv.set A q1 S q3 H G rfl W k (own_nc (by omega)) (by rw [own_vdlen]; exact hk)
  rw [own_vdset] at q; exact ⟨ck, q⟩
end OwnAd
def own_fl (k i : Nat) : Int32 := if i < k then -1 else 0
theorem own_fls (k i : Nat) : own_up (own_fl k) k (-1) i = own_fl (k + 1) i := by
  unfold own_up own_fl
  by_cases q : i = k
  · rw [if_pos q, if_pos (by omega)]
  · rw [if_neg q]
    by_cases r : i < k
    · rw [if_pos r, if_pos (by omega)]
    · rw [if_neg r, if_neg (by omega)]
theorem d4_5 : decode jdk_65_method_103_code 5 = .ok (.iload_n 2, 1) := by decide +kernel
theorem d4_6 : decode jdk_65_method_103_code 6 = .ok (.iload_n 3, 1) := by decide +kernel
theorem d4_7 : decode jdk_65_method_103_code 7 = .ok (.if_icmp .ge 13, 3) := by decide +kernel
theorem d4_10 : decode jdk_65_method_103_code 10 = .ok (.aload_n 0, 1) := by decide +kernel
theorem d4_11 : decode jdk_65_method_103_code 11 = .ok (.iload_n 2, 1) := by decide +kernel
theorem d4_12 : decode jdk_65_method_103_code 12 = .ok (.iload_n 1, 1) := by decide +kernel
theorem d4_13 : decode jdk_65_method_103_code 13 = .ok (.iastore, 1) := by decide +kernel
theorem d4_14 : decode jdk_65_method_103_code 14 = .ok (.iinc 2 1, 3) := by decide +kernel
theorem d4_17 : decode jdk_65_method_103_code 17 = .ok (.goto (-12), 3) := by decide +kernel
theorem pn_Arrays : plainName "java/util/Arrays" = true := by first | (simp [plainName, overriddenIn]; done) | decide +kernel
set_option maxRecDepth 65536 in
set_option maxHeartbeats 40000000 in
theorem own_fturn {p : Program} {l : Launch} {e : Env} {R : Room} {cells slots : Nat} {s : State} {m : MethodId} {args : Array Value} {below : List Frame} {meth : Method} {c : Code} {T0 : State} {locs : List Loc} {Z : State} {av0 : Array Value} {h0 : Heap} {n0 : Nat} (a0 : Addr) (n : Nat) (k : Nat) (X0 : Stand p l e R s m args below meth c T0 locs cells slots) (hx : p.tables.exec = Jvm.exec) (hZ : Z.Warmed39 s.vm) (hw : ∀ d ∈ tables_1, d.before av0 Z = true) (hby : c.code = jdk_65_method_103_code) (hml : c.maxLocals = 4) (hown : s.vm.findClass mN0.cls = some m.cls) (e0 : T0.heap = h0) (N0 : Fr n0 locs) (Z0 : n0 ≤ h0.size) (hn : n < 2147483647) (hAr : own_Ar Z h0 a0 n (own_fl k)) (hge : n0 ≤ a0) (hk : k < n) :
    ∃ (T' : State) (h' : Heap) (locs' : List Loc), Stand p l e R s m args below meth c T' locs' cells slots ∧ T'.heap = h' ∧ Fr n0 locs' ∧ Keep h0 h' [a0] ∧ own_Ar Z h' a0 n (own_fl (k + 1)) ∧ ∀ tz, oS p e below T' (mkF m 5 #[rv a0, iv (-1 : Int32), iv ((own_n (k + 1))), iv (own_n n)] []) tz → oS p e below T0 (mkF m 5 #[rv a0, iv (-1 : Int32), iv (own_n k), iv (own_n n)] []) tz := by
  obtain ⟨kc1, cl1, Ar1, qk1, Sz1, Ng1, Hs1, Gs1⟩ := id hAr
  have hin1 : ¬ ((own_n k) < 0 ∨ cl1.slots.size ≤ ((own_n k)).toNatClampNeg) := own_inb (n := n) (k := k) Sz1 (by omega) hk
  obtain ⟨T2, h2, X2, e2, W2, st2⟩ := stI X0 hx hZ e0 Ar1 (j := (own_n k)) hin1 (g := (mkF m 13 #[rv a0, iv (-1 : Int32), iv (own_n k), iv (own_n n)] [(.int (-1)), (.int (own_n k)), (.ref a0)])) rfl rfl (hb hby d4_13)
  have N2 := Fr.snoc X2 N0 hge
  have Z2 : n0 ≤ h2.size := Nat.le_trans Z0 (Nat.le_of_eq W2.size.symm)
  have K2 : Keep h0 h2 [a0] := (Keep.refl h0 [a0]).wr W2 (Or.inl (List.mem_of_getElem? (i := 0) rfl))
  have V2 : own_Ar Z h2 a0 n (own_up (own_fl k) k (-1 : Int32)) := own_arset (g := (own_fl k)) (k := k) Ar1 qk1 Sz1 Ng1 Hs1 Gs1 W2 (by omega) hk
  have S3 : ∀ tz, oS p e below T2 (mkF m 5 #[rv a0, iv (-1 : Int32), iv ((own_n (k + 1))), iv (own_n n)] []) tz → oS p e below T0 (mkF m 5 #[rv a0, iv (-1 : Int32), iv (own_n k), iv (own_n n)] []) tz := fun tz kz => id (by
    show oS p e below T0 (mkF m 5 #[rv a0, iv (-1 : Int32), iv (own_n k), iv (own_n n)] []) _
    refine XS.iloadN X0.here hx rfl (hb hby d4_5) rfl ?_
    refine XS.iloadN X0.here hx rfl (hb hby d4_6) rfl ?_
    refine XS.icmpNo X0.here hx rfl (hb hby d4_7) rfl (XT.ii_ge_f (own_nlt hk (by omega)).2) ?_
    refine XS.aloadN X0.here hx rfl (hb hby d4_10) rfl rfl ?_
    refine XS.iloadN X0.here hx rfl (hb hby d4_11) rfl ?_
    refine XS.iloadN X0.here hx rfl (hb hby d4_12) rfl ?_
    refine st2 _ ?_
    refine XT.iincV X2.here hx rfl (1 : Int32) (hb hby d4_14) (by decide) rfl (l' := #[rv a0, iv (-1 : Int32), iv (((own_n k) + (1 : Int32))), iv (own_n n)]) rfl ?_
    show oS p e below T2 (mkF m 17 #[rv a0, iv (-1 : Int32), iv (((own_n k) + (1 : Int32))), iv (own_n n)] []) _
    rw [own_nadd (by omega)]
    show oS p e below T2 (mkF m 17 #[rv a0, iv (-1 : Int32), iv ((own_n (k + 1))), iv (own_n n)] []) _
    refine XS.goto X2.here hx rfl (pc0 := 17) (pc' := 5) rfl (hb hby d4_17) (by decide) (by decide) ?_
    show oS p e below T2 (mkF m 5 #[rv a0, iv (-1 : Int32), iv ((own_n (k + 1))), iv (own_n n)] []) _
    exact kz)
  exact ⟨T2, _, _, X2, e2, N2, K2, V2.eqv (fun i _ => own_fls k i), fun tz kz => S3 tz kz⟩
set_option maxRecDepth 65536 in
set_option maxHeartbeats 40000000 in
theorem own_fleave {p : Program} {l : Launch} {e : Env} {R : Room} {cells slots : Nat} {s : State} {m : MethodId} {args : Array Value} {below : List Frame} {meth : Method} {c : Code} {T0 : State} {locs : List Loc} {Z : State} {av0 : Array Value} {h0 : Heap} {n0 : Nat} (a0 : Addr) (n : Nat) (X0 : Stand p l e R s m args below meth c T0 locs cells slots) (hx : p.tables.exec = Jvm.exec) (hZ : Z.Warmed39 s.vm) (hw : ∀ d ∈ tables_1, d.before av0 Z = true) (hby : c.code = jdk_65_method_103_code) (hml : c.maxLocals = 4) (hown : s.vm.findClass mN0.cls = some m.cls) (e0 : T0.heap = h0) (N0 : Fr n0 locs) (Z0 : n0 ≤ h0.size)  :
    ∃ (T' : State) (h' : Heap) (locs' : List Loc), Stand p l e R s m args below meth c T' locs' cells slots ∧ T'.heap = h' ∧ Fr n0 locs' ∧ h' = h0 ∧ ∀ tz, oS p e below T' (mkF m 20 #[rv a0, iv (-1 : Int32), iv (own_n n), iv (own_n n)] []) tz → oS p e below T0 (mkF m 5 #[rv a0, iv (-1 : Int32), iv (own_n n), iv (own_n n)] []) tz := by
  have S1 : ∀ tz, oS p e below T0 (mkF m 20 #[rv a0, iv (-1 : Int32), iv (own_n n), iv (own_n n)] []) tz → oS p e below T0 (mkF m 5 #[rv a0, iv (-1 : Int32), iv (own_n n), iv (own_n n)] []) tz := fun tz kz => id (by
    show oS p e below T0 (mkF m 5 #[rv a0, iv (-1 : Int32), iv (own_n n), iv (own_n n)] []) _
    refine XS.iloadN X0.here hx rfl (hb hby d4_5) rfl ?_
    refine XS.iloadN X0.here hx rfl (hb hby d4_6) rfl ?_
    refine XS.icmpYes X0.here hx rfl (pc0 := 7) (pc' := 20) rfl (hb hby d4_7) rfl (XT.ii_ge_t (Int32.lt_irrefl)) (by decide) (by decide) ?_
    exact kz)
  exact ⟨T0, _, _, X0, e0, N0, rfl, fun tz kz => S1 tz kz⟩
set_option maxHeartbeats 40000000 in
theorem own_floop {p : Program} {l : Launch} {e : Env} {R : Room} {s : State} {m : MethodId} {args : Array Value} {below : List Frame} {meth : Method} {c : Code} {cells slots : Nat} {Z : State} {av0 : Array Value} {n0 : Nat} (a0 : Addr) (n : Nat)
    (hx : p.tables.exec = Jvm.exec) (hZ : Z.Warmed39 s.vm) (hw : ∀ d ∈ tables_1, d.before av0 Z = true) (hby : c.code = jdk_65_method_103_code) (hml : c.maxLocals = 4) (hown : s.vm.findClass mN0.cls = some m.cls) (hn : n < 2147483647) (hge : n0 ≤ a0) :
    ∀ (t k : Nat) (T0 : State) (locs : List Loc) (h0 : Heap), k + t = n → Stand p l e R s m args below meth c T0 locs cells slots → T0.heap = h0 → Fr n0 locs → n0 ≤ h0.size → own_Ar Z h0 a0 n (own_fl k) →
    ∃ (T' : State) (h' : Heap) (locs' : List Loc), Stand p l e R s m args below meth c T' locs' cells slots ∧ T'.heap = h' ∧ Fr n0 locs' ∧ Keep h0 h' [a0] ∧ own_Ar Z h' a0 n (own_fl n) ∧ ∀ t, oS p e below T' (mkF m 20 #[rv a0, iv (-1 : Int32), iv (own_n n), iv (own_n n)] []) t → oS p e below T0 (mkF m 5 #[rv a0, iv (-1 : Int32), iv (own_n k), iv (own_n n)] []) t := by
  intro t
  induction t with
  | zero =>
    intro k T0 locs h0 hk X0 e0 N0 Z0 hAr
    obtain rfl : k = n := by omega
    obtain ⟨T1, h1, l1, X1, e1, N1, rfl, S1⟩ := own_fleave a0 k X0 hx hZ hw hby hml hown e0 N0 Z0
    exact ⟨T1, _, l1, X1, e1, N1, Keep.refl _ _, hAr, S1⟩
  | succ t ih =>
    intro k T0 locs h0 hk X0 e0 N0 Z0 hAr
    obtain ⟨T1, h1, l1, X1, e1, N1, K1, A1, S1⟩ := own_fturn a0 n k X0 hx hZ hw hby hml hown e0 N0 Z0 hn hAr hge (by omega)
    obtain ⟨T2, h2, l2, X2, e2, N2, K2, A2, S2⟩ := ih (k + 1) T1 l1 h1 (by omega) X1 e1 N1 (Nat.le_trans Z0 K1.1) A1
    exact ⟨T2, h2, l2, X2, e2, N2, K1.trans K2 (fun x hx => Or.inl hx), A2, fun t k => S1 t (S2 t k)⟩
theorem d4_0 : decode jdk_65_method_103_code 0 = .ok (.iconst 0, 1) := by decide +kernel
theorem d4_1 : decode jdk_65_method_103_code 1 = .ok (.istore_n 2, 1) := by decide +kernel
theorem d4_2 : decode jdk_65_method_103_code 2 = .ok (.aload_n 0, 1) := by decide +kernel
theorem d4_3 : decode jdk_65_method_103_code 3 = .ok (.arraylength, 1) := by decide +kernel
theorem d4_4 : decode jdk_65_method_103_code 4 = .ok (.istore_n 3, 1) := by decide +kernel
theorem d4_20 : decode jdk_65_method_103_code 20 = .ok (.return_, 1) := by decide +kernel
def QrmFill (Z : State) (a0 : Addr) (n : Nat) (h0 : Heap) (n0 : Nat) (v : Option Value) (h : Heap) (L : List Loc) : Prop := v = none ∧ Fr n0 L ∧ Keep h0 h [a0] ∧ own_Ar Z h a0 n (fun _ => -1)
set_option maxRecDepth 65536 in
set_option maxHeartbeats 40000000 in
theorem rmFill (l : Launch) (Z : State) (av0 : Array Value) (hw : ∀ d ∈ tables_1, d.before av0 Z = true) (ws : List Jvm.Cond) (a0 : Addr) (n : Nat) (h0 : Heap) (n0 : Nat) (Z0 : n0 ≤ h0.size) (hn : n < 2147483647) (hAr : own_Ar Z h0 a0 n (fun _ => 0)) (hge : n0 ≤ a0) :
    own_Met l mN0 jdk_65_method_103_code 4 none ws ({ frames := 0, cells := 0, slots := 0, locals := 0 } : Room) #[(.ref a0), (.int (-1))] Z h0 (QrmFill Z a0 n h0 n0) := by
  refine MetFree.of_bodySF (plainFor_of_name pn_Arrays) hisR ?_
  intro p e s m args below meth c s₁ Bd hml0 hP hK
  obtain ⟨rfl, hZ, hh⟩ := hP
  have hml : c.maxLocals = 4 := hml0
  obtain ⟨hx, hby, hown, hnm, X0, e0⟩ := own_start Bd hml0 hh
  have N0 := Fr.nil n0
  have pre0 : ∀ tz, oS p e below s₁ (mkF m 0 #[rv a0, iv (-1 : Int32), .unset, .unset] []) tz → Steps p.tables e below (s₁.setTop (entryFrame m #[(.ref a0), (.int (-1))] 4)) tz := fun tz kz => castTop (by first | (simp [entryFrame, mkF, argsToLocals, Value.category]; done) | rfl) kz
  obtain ⟨kc1, cl1, Ar1, qk1, Sz1, Ng1, Hs1, Gs1⟩ := id (hAr.eqv (fun i _ => (if_neg (Nat.not_lt_zero i)).symm) : own_Ar Z h0 a0 n (own_fl 0))
  have S2 : ∀ tz, oS p e below s₁ (mkF m 5 #[rv a0, iv (-1 : Int32), iv 0, iv (own_n n)] []) tz → oS p e below s₁ (mkF m 0 #[rv a0, iv (-1 : Int32), .unset, .unset] []) tz := fun tz kz => id (by
    show oS p e below s₁ (mkF m 0 #[rv a0, iv (-1 : Int32), .unset, .unset] []) _
    refine XT.iconstV X0.here hx rfl (0 : Int32) (hb hby d4_0) (by decide) ?_
    refine XS.istoreN X0.here hx rfl (hb hby d4_1) rfl (l' := #[rv a0, iv (-1 : Int32), iv 0, .unset]) rfl ?_
    refine XS.aloadN X0.here hx rfl (hb hby d4_2) rfl rfl ?_
    refine X0.arraylength hx (by rw [e0]; exact Ar1.1) (State.isArrayOf_alike hZ.alike Ar1.2.1) (g := (mkF m 3 #[rv a0, iv (-1 : Int32), iv 0, .unset] [(.ref a0)])) rfl rfl (hb hby d4_3) _ ?_
    rw [len_of Sz1 Ng1]
    refine XS.istoreN X0.here hx rfl (hb hby d4_4) rfl (l' := #[rv a0, iv (-1 : Int32), iv 0, iv (own_n n)]) rfl ?_
    exact kz)
  obtain ⟨T3, h3, l3, X3, e3, N3, K3, A3, st3⟩ := own_floop a0 n hx hZ hw hby hml hown hn hge n 0 s₁ _ _ (by omega) X0 e0 N0 Z0 (hAr.eqv (fun i _ => (if_neg (Nat.not_lt_zero i)).symm) : own_Ar Z h0 a0 n (own_fl 0))
  have S4 : ∀ tz, oS p e below T3 (mkF m 20 #[rv a0, iv (-1 : Int32), iv (own_n n), iv (own_n n)] []) tz → oS p e below s₁ (mkF m 0 #[rv a0, iv (-1 : Int32), .unset, .unset] []) tz := fun tz kz => S2 tz (by
    show oS p e below s₁ (mkF m 5 #[rv a0, iv (-1 : Int32), iv 0, iv (own_n n)] []) _
    refine st3 _ ?_
    show oS p e below T3 (mkF m 20 #[rv a0, iv (-1 : Int32), iv (own_n n), iv (own_n n)] []) _
    exact kz)
  obtain ⟨fs, hr, hrun, hended, hW, hsame⟩ := X3.leave (v := none) (fun _ => rfl)
  refine ⟨_, _, pre0 _ (S4 _ ?_), hrun, hended, _, _, rfl, ?_, ⟨_, rfl⟩, hW, hsame.mono (by decide) (by decide)⟩
  · exact X3.returnOut hx Bd.returns (hb hby d4_20) hr
  · show QrmFill Z a0 n h0 n0 _ T3.heap _
    rw [e3]
    exact ⟨rfl, N3, K3, A3.eqv (fun i hi => if_pos hi)⟩
theorem d3_0 : decode prog_72_method_12_code 0 = .ok (.iload_n 0, 1) := by decide +kernel
theorem d3_1 : decode prog_72_method_12_code 1 = .ok (.newarray .int, 2) := by decide +kernel
theorem d3_3 : decode prog_72_method_12_code 3 = .ok (.astore_n 1, 1) := by decide +kernel
theorem d3_4 : decode prog_72_method_12_code 4 = .ok (.aload_n 1, 1) := by decide +kernel
theorem d3_5 : decode prog_72_method_12_code 5 = .ok (.iconst (-1), 1) := by decide +kernel
theorem d3_6 : decode prog_72_method_12_code 6 = .ok (.invokestatic 121, 3) := by decide +kernel
theorem d3_9 : decode prog_72_method_12_code 9 = .ok (.aload_n 1, 1) := by decide +kernel
theorem d3_10 : decode prog_72_method_12_code 10 = .ok (.areturn, 1) := by decide +kernel
theorem pn_DecisionDiagram : plainName "com/example/prolong/prolong/tree/DecisionDiagram" = true := by first | (simp [plainName, overriddenIn]; done) | decide +kernel
theorem pd__A_II_V : parseMethodDescriptor "([II)V" = some ⟨[(.array .int), .int], none⟩ := by decide +kernel
def QrmEmpty1024 (Z : State)  (h0 : Heap) (n0 : Nat) (v : Option Value) (h : Heap) (L : List Loc) : Prop := ∃ b : Addr, v = some (.ref b) ∧ Fr n0 L ∧ h0.size ≤ b ∧ Keep h0 h [] ∧ own_Ar Z h b 1024 (fun _ => -1)
set_option maxRecDepth 65536 in
set_option maxHeartbeats 40000000 in
theorem rmEmpty1024 (l : Launch) (Z : State) (av0 : Array Value) (hw : ∀ d ∈ tables_1, d.before av0 Z = true) (ws : List Jvm.Cond)  (h0 : Heap) (n0 : Nat) (Z0 : n0 ≤ h0.size)  :
    own_Met l mN1 prog_72_method_12_code 2 (some (.array .int)) ws ({ frames := 1, cells := 1, slots := 1024, locals := 15 } : Room) #[(.int 1024)] Z h0 (QrmEmpty1024 Z  h0 n0) := by
  refine MetFree.of_bodySF (plainFor_of_name pn_DecisionDiagram) hisR ?_
  intro p e s m args below meth c s₁ Bd hml0 hP hK
  obtain ⟨rfl, hZ, hh⟩ := hP
  have hml : c.maxLocals = 2 := hml0
  obtain ⟨hx, hby, hown, hnm, X0, e0⟩ := own_start Bd hml0 hh
  have N0 := Fr.nil n0
  have pre0 : ∀ tz, oS p e below s₁ (mkF m 0 #[iv 1024, .unset] []) tz → Steps p.tables e below (s₁.setTop (entryFrame m #[(.int 1024)] 2)) tz := fun tz kz => castTop (by first | (simp [entryFrame, mkF, argsToLocals, Value.category]; done) | rfl) kz
  obtain ⟨T1, h1, k1, X1, e1, E1, A1, st1⟩ := newP X0 hx hZ (hw _ (own_w 12 rfl)) e0 (g := (mkF m 1 #[iv 1024, .unset] [(.int 1024)])) rfl (hb hby d3_1) rfl (by decide) (cap := 1024) (by decide) (by decide) (by decide) (by decide)
  obtain ⟨b1, g1⟩ : ∃ z, z = h0.size := ⟨_, rfl⟩
  rw [← g1] at A1 st1
  have ge_b1 : n0 ≤ b1 := Nat.le_trans Z0 (Nat.le_of_eq g1.symm)
  have sz_b1 : h0.size ≤ b1 := Nat.le_of_eq g1.symm
  have Z1 : n0 ≤ h1.size := Nat.le_trans Z0 E1.1
  have K1 : Keep h0 h1 [] := (Keep.refl h0 []).ext E1
  have V1 : own_Ar Z h1 b1 1024 (fun _ => 0) := own_new0 1024 (by decide) A1
  obtain ⟨_, T2, Lc2, X2, hQ2, st2⟩ := own_callS (W := 0) (y := mN0) X1 hx hZ hown (hw _ (own_w 22 rfl)) (hw _ (own_w 23 rfl)) (hw _ (own_w 24 rfl)) (hw _ (own_w 25 rfl)) (by decide) (rmFill l Z av0 hw [] b1 1024 h1 n0 Z1 (by decide) V1 ge_b1) (by decide) (by decide) (g := (mkF m 6 #[iv 1024, rv b1] [(.int (-1)), (.ref b1)])) rfl (by rw [hml]; rfl) (argsL := [(.ref b1), (.int (-1))]) (rest := []) (lenOf pd__A_II_V rfl) rfl (hb hby d3_6) rfl e1 (by decide : 1 + 0 ≤ _) (by decide : 1024 + 0 ≤ _)
  obtain ⟨rfl, N2q, K2, B2⟩ := hQ2
  have N2 := Fr.app N0 N2q
  have e2 : T2.heap = T2.heap := rfl
  have Zk2 : n0 ≤ T2.heap.size := Nat.le_trans Z1 K2.1
  have Kk2 : Keep h0 T2.heap [] := K1.trans K2 (allS (Or.inr sz_b1) all0)
  have S3 : ∀ tz, oS p e below T2 (mkF m 10 #[iv 1024, rv b1] [(.ref b1)]) tz → oS p e below s₁ (mkF m 0 #[iv 1024, .unset] []) tz := fun tz kz => id (by
    show oS p e below s₁ (mkF m 0 #[iv 1024, .unset] []) _
    refine XS.iloadN X0.here hx rfl (hb hby d3_0) rfl ?_
    refine st1 _ ?_
    refine XS.astoreN X1.here hx rfl (hb hby d3_3) rfl rfl (l' := #[iv 1024, rv b1]) rfl ?_
    refine XS.aloadN X1.here hx rfl (hb hby d3_4) rfl rfl ?_
    refine XT.iconstV X1.here hx rfl (-1 : Int32) (hb hby d3_5) (by decide) ?_
    refine st2 _ ?_
    refine XS.aloadN X2.here hx rfl (hb hby d3_9) rfl rfl ?_
    exact kz)
  obtain ⟨fs, hr, hrun, hended, hW, hsame⟩ := X2.leave (v := some (.ref b1)) (fun h => by rw [Bd.returns] at h; cases h)
  refine ⟨_, _, pre0 _ (S3 _ ?_), hrun, hended, _, _, rfl, ?_, ⟨_, rfl⟩, hW, hsame.mono (by decide) (by decide)⟩
  · jvm_step X2.here [X2.here.top, hx, (hb hby d3_10), X2.method', Bd.returns, Value.isRef, FieldType.isReference]
    first | (intro acts; rw [hr _ acts rfl rfl rfl]) | rw [hr _ _ rfl rfl rfl]
    exact Steps.refl _
  · show QrmEmpty1024 Z  h0 n0 _ T2.heap _
    rw [e2]
    exact ⟨_, rfl, N2, sz_b1, Kk2, B2⟩
def QrmEmpty2048 (Z : State)  (h0 : Heap) (n0 : Nat) (v : Option Value) (h : Heap) (L : List Loc) : Prop := ∃ b : Addr, v = some (.ref b) ∧ Fr n0 L ∧ h0.size ≤ b ∧ Keep h0 h [] ∧ own_Ar Z h b 2048 (fun _ => -1)
set_option maxRecDepth 65536 in
set_option maxHeartbeats 40000000 in
theorem rmEmpty2048 (l : Launch) (Z : State) (av0 : Array Value) (hw : ∀ d ∈ tables_1, d.before av0 Z = true) (ws : List Jvm.Cond)  (h0 : Heap) (n0 : Nat) (Z0 : n0 ≤ h0.size)  :
    own_Met l mN1 prog_72_method_12_code 2 (some (.array .int)) ws ({ frames := 1, cells := 1, slots := 2048, locals := 15 } : Room) #[(.int 2048)] Z h0 (QrmEmpty2048 Z  h0 n0) := by
  refine MetFree.of_bodySF (plainFor_of_name pn_DecisionDiagram) hisR ?_
  intro p e s m args below meth c s₁ Bd hml0 hP hK
  obtain ⟨rfl, hZ, hh⟩ := hP
  have hml : c.maxLocals = 2 := hml0
  obtain ⟨hx, hby, hown, hnm, X0, e0⟩ := own_start Bd hml0 hh
  have N0 := Fr.nil n0
  have pre0 : ∀ tz, oS p e below s₁ (mkF m 0 #[iv 2048, .unset] []) tz → Steps p.tables e below (s₁.setTop (entryFrame m #[(.int 2048)] 2)) tz := fun tz kz => castTop (by first | (simp [entryFrame, mkF, argsToLocals, Value.category]; done) | rfl) kz
  obtain ⟨T1, h1, k1, X1, e1, E1, A1, st1⟩ := newP X0 hx hZ (hw _ (own_w 12 rfl)) e0 (g := (mkF m 1 #[iv 2048, .unset] [(.int 2048)])) rfl (hb hby d3_1) rfl (by decide) (cap := 2048) (by decide) (by decide) (by decide) (by decide)
  obtain ⟨b1, g1⟩ : ∃ z, z = h0.size := ⟨_, rfl⟩
  rw [← g1] at A1 st1
  have ge_b1 : n0 ≤ b1 := Nat.le_trans Z0 (Nat.le_of_eq g1.symm)
  have sz_b1 : h0.size ≤ b1 := Nat.le_of_eq g1.symm
  have Z1 : n0 ≤ h1.size := Nat.le_trans Z0 E1.1
  have K1 : Keep h0 h1 [] := (Keep.refl h0 []).ext E1
  have V1 : own_Ar Z h1 b1 2048 (fun _ => 0) := own_new0 2048 (by decide) A1
  obtain ⟨_, T2, Lc2, X2, hQ2, st2⟩ := own_callS (W := 0) (y := mN0) X1 hx hZ hown (hw _ (own_w 22 rfl)) (hw _ (own_w 23 rfl)) (hw _ (own_w 24 rfl)) (hw _ (own_w 25 rfl)) (by decide) (rmFill l Z av0 hw [] b1 2048 h1 n0 Z1 (by decide) V1 ge_b1) (by decide) (by decide) (g := (mkF m 6 #[iv 2048, rv b1] [(.int (-1)), (.ref b1)])) rfl (by rw [hml]; rfl) (argsL := [(.ref b1), (.int (-1))]) (rest := []) (lenOf pd__A_II_V rfl) rfl (hb hby d3_6) rfl e1 (by decide : 1 + 0 ≤ _) (by decide : 2048 + 0 ≤ _)
  obtain ⟨rfl, N2q, K2, B2⟩ := hQ2
  have N2 := Fr.app N0 N2q
  have e2 : T2.heap = T2.heap := rfl
  have Zk2 : n0 ≤ T2.heap.size := Nat.le_trans Z1 K2.1
  have Kk2 : Keep h0 T2.heap [] := K1.trans K2 (allS (Or.inr sz_b1) all0)
  have S3 : ∀ tz, oS p e below T2 (mkF m 10 #[iv 2048, rv b1] [(.ref b1)]) tz → oS p e below s₁ (mkF m 0 #[iv 2048, .unset] []) tz := fun tz kz => id (by
    show oS p e below s₁ (mkF m 0 #[iv 2048, .unset] []) _
    refine XS.iloadN X0.here hx rfl (hb hby d3_0) rfl ?_
    refine st1 _ ?_
    refine XS.astoreN X1.here hx rfl (hb hby d3_3) rfl rfl (l' := #[iv 2048, rv b1]) rfl ?_
    refine XS.aloadN X1.here hx rfl (hb hby d3_4) rfl rfl ?_
    refine XT.iconstV X1.here hx rfl (-1 : Int32) (hb hby d3_5) (by decide) ?_
    refine st2 _ ?_
    refine XS.aloadN X2.here hx rfl (hb hby d3_9) rfl rfl ?_
    exact kz)
  obtain ⟨fs, hr, hrun, hended, hW, hsame⟩ := X2.leave (v := some (.ref b1)) (fun h => by rw [Bd.returns] at h; cases h)
  refine ⟨_, _, pre0 _ (S3 _ ?_), hrun, hended, _, _, rfl, ?_, ⟨_, rfl⟩, hW, hsame.mono (by decide) (by decide)⟩
  · jvm_step X2.here [X2.here.top, hx, (hb hby d3_10), X2.method', Bd.returns, Value.isRef, FieldType.isReference]
    first | (intro acts; rw [hr _ acts rfl rfl rfl]) | rw [hr _ _ rfl rfl rfl]
    exact Steps.refl _
  · show QrmEmpty2048 Z  h0 n0 _ T2.heap _
    rw [e2]
    exact ⟨_, rfl, N2, sz_b1, Kk2, B2⟩
def own_Dia (Z : State) (h : Heap) (a0 av al ah au qa qb qc qd : Addr) (vr lw hg uq c1 c2 c3 c4 : Nat → Int32) (sz : Nat) : Prop := (Exa Z h a0 "com/example/prolong/prolong/tree/DecisionDiagram") ∧ (Fld Z h a0 "com/example/prolong/prolong/tree/DecisionDiagram" "variable" "[I" (.ref av)) ∧ (Fld Z h a0 "com/example/prolong/prolong/tree/DecisionDiagram" "low" "[I" (.ref al)) ∧ (Fld Z h a0 "com/example/prolong/prolong/tree/DecisionDiagram" "high" "[I" (.ref ah)) ∧ (Fld Z h a0 "com/example/prolong/prolong/tree/DecisionDiagram" "unique" "[I" (.ref au)) ∧ (Fld Z h a0 "com/example/prolong/prolong/tree/DecisionDiagram" "cachedIf" "[I" (.ref qa)) ∧ (Fld Z h a0 "com/example/prolong/prolong/tree/DecisionDiagram" "cachedThen" "[I" (.ref qb)) ∧ (Fld Z h a0 "com/example/prolong/prolong/tree/DecisionDiagram" "cachedElse" "[I" (.ref qc)) ∧ (Fld Z h a0 "com/example/prolong/prolong/tree/DecisionDiagram" "cachedResult" "[I" (.ref qd)) ∧ (Fld Z h a0 "com/example/prolong/prolong/tree/DecisionDiagram" "size" "I" (.int (own_n sz))) ∧ (own_Ar Z h av 1024 vr) ∧ (own_Ar Z h al 1024 lw) ∧ (own_Ar Z h ah 1024 hg) ∧ (own_Ar Z h au 2048 uq) ∧ (own_Ar Z h qa 1024 c1) ∧ (own_Ar Z h qb 1024 c2) ∧ (own_Ar Z h qc 1024 c3) ∧ (own_Ar Z h qd 1024 c4)
theorem own_Dia.mk {Z : State} {h : Heap} {a0 av al ah au qa qb qc qd : Addr} {vr lw hg uq c1 c2 c3 c4 : Nat → Int32} {sz : Nat} (z0 : Exa Z h a0 "com/example/prolong/prolong/tree/DecisionDiagram") (z1 : Fld Z h a0 "com/example/prolong/prolong/tree/DecisionDiagram" "variable" "[I" (.ref av)) (z2 : Fld Z h a0 "com/example/prolong/prolong/tree/DecisionDiagram" "low" "[I" (.ref al)) (z3 : Fld Z h a0 "com/example/prolong/prolong/tree/DecisionDiagram" "high" "[I" (.ref ah)) (z4 : Fld Z h a0 "com/example/prolong/prolong/tree/DecisionDiagram" "unique" "[I" (.ref au)) (z5 : Fld Z h a0 "com/example/prolong/prolong/tree/DecisionDiagram" "cachedIf" "[I" (.ref qa)) (z6 : Fld Z h a0 "com/example/prolong/prolong/tree/DecisionDiagram" "cachedThen" "[I" (.ref qb)) (z7 : Fld Z h a0 "com/example/prolong/prolong/tree/DecisionDiagram" "cachedElse" "[I" (.ref qc)) (z8 : Fld Z h a0 "com/example/prolong/prolong/tree/DecisionDiagram" "cachedResult" "[I" (.ref qd)) (z9 : Fld Z h a0 "com/example/prolong/prolong/tree/DecisionDiagram" "size" "I" (.int (own_n sz))) (z10 : own_Ar Z h av 1024 vr) (z11 : own_Ar Z h al 1024 lw) (z12 : own_Ar Z h ah 1024 hg) (z13 : own_Ar Z h au 2048 uq) (z14 : own_Ar Z h qa 1024 c1) (z15 : own_Ar Z h qb 1024 c2) (z16 : own_Ar Z h qc 1024 c3) (z17 : own_Ar Z h qd 1024 c4) : own_Dia Z h a0 av al ah au qa qb qc qd vr lw hg uq c1 c2 c3 c4 sz := ⟨z0, z1, z2, z3, z4, z5, z6, z7, z8, z9, z10, z11, z12, z13, z14, z15, z16, z17⟩
theorem own_Dia.E {Z : State} {h : Heap} {a0 av al ah au qa qb qc qd : Addr} {vr lw hg uq c1 c2 c3 c4 : Nat → Int32} {sz : Nat} (D : own_Dia Z h a0 av al ah au qa qb qc qd vr lw hg uq c1 c2 c3 c4 sz) : Exa Z h a0 "com/example/prolong/prolong/tree/DecisionDiagram" := by obtain ⟨z, -, -, -, -, -, -, -, -, -, -, -, -, -, -, -, -, -⟩ := D; exact z
theorem own_Dia.Fav {Z : State} {h : Heap} {a0 av al ah au qa qb qc qd : Addr} {vr lw hg uq c1 c2 c3 c4 : Nat → Int32} {sz : Nat} (D : own_Dia Z h a0 av al ah au qa qb qc qd vr lw hg uq c1 c2 c3 c4 sz) : Fld Z h a0 "com/example/prolong/prolong/tree/DecisionDiagram" "variable" "[I" (.ref av) := by obtain ⟨-, z, -, -, -, -, -, -, -, -, -, -, -, -, -, -, -, -⟩ := D; exact z
theorem own_Dia.Fal {Z : State} {h : Heap} {a0 av al ah au qa qb qc qd : Addr} {vr lw hg uq c1 c2 c3 c4 : Nat → Int32} {sz : Nat} (D : own_Dia Z h a0 av al ah au qa qb qc qd vr lw hg uq c1 c2 c3 c4 sz) : Fld Z h a0 "com/example/prolong/prolong/tree/DecisionDiagram" "low" "[I" (.ref al) := by obtain ⟨-, -, z, -, -, -, -, -, -, -, -, -, -, -, -, -, -, -⟩ := D; exact z
theorem own_Dia.Fah {Z : State} {h : Heap} {a0 av al ah au qa qb qc qd : Addr} {vr lw hg uq c1 c2 c3 c4 : Nat → Int32} {sz : Nat} (D : own_Dia Z h a0 av al ah au qa qb qc qd vr lw hg uq c1 c2 c3 c4 sz) : Fld Z h a0 "com/example/prolong/prolong/tree/DecisionDiagram" "high" "[I" (.ref ah) := by obtain ⟨-, -, -, z, -, -, -, -, -, -, -, -, -, -, -, -, -, -⟩ := D; exact z
theorem own_Dia.Fau {Z : State} {h : Heap} {a0 av al ah au qa qb qc qd : Addr} {vr lw hg uq c1 c2 c3 c4 : Nat → Int32} {sz : Nat} (D : own_Dia Z h a0 av al ah au qa qb qc qd vr lw hg uq c1 c2 c3 c4 sz) : Fld Z h a0 "com/example/prolong/prolong/tree/DecisionDiagram" "unique" "[I" (.ref au) := by obtain ⟨-, -, -, -, z, -, -, -, -, -, -, -, -, -, -, -, -, -⟩ := D; exact z
theorem own_Dia.Fqa {Z : State} {h : Heap} {a0 av al ah au qa qb qc qd : Addr} {vr lw hg uq c1 c2 c3 c4 : Nat → Int32} {sz : Nat} (D : own_Dia Z h a0 av al ah au qa qb qc qd vr lw hg uq c1 c2 c3 c4 sz) : Fld Z h a0 "com/example/prolong/prolong/tree/DecisionDiagram" "cachedIf" "[I" (.ref qa) := by obtain ⟨-, -, -, -, -, z, -, -, -, -, -, -, -, -, -, -, -, -⟩ := D; exact z
theorem own_Dia.Fqb {Z : State} {h : Heap} {a0 av al ah au qa qb qc qd : Addr} {vr lw hg uq c1 c2 c3 c4 : Nat → Int32} {sz : Nat} (D : own_Dia Z h a0 av al ah au qa qb qc qd vr lw hg uq c1 c2 c3 c4 sz) : Fld Z h a0 "com/example/prolong/prolong/tree/DecisionDiagram" "cachedThen" "[I" (.ref qb) := by obtain ⟨-, -, -, -, -, -, z, -, -, -, -, -, -, -, -, -, -, -⟩ := D; exact z
theorem own_Dia.Fqc {Z : State} {h : Heap} {a0 av al ah au qa qb qc qd : Addr} {vr lw hg uq c1 c2 c3 c4 : Nat → Int32} {sz : Nat} (D : own_Dia Z h a0 av al ah au qa qb qc qd vr lw hg uq c1 c2 c3 c4 sz) : Fld Z h a0 "com/example/prolong/prolong/tree/DecisionDiagram" "cachedElse" "[I" (.ref qc) := by obtain ⟨-, -, -, -, -, -, -, z, -, -, -, -, -, -, -, -, -, -⟩ := D; exact z
theorem own_Dia.Fqd {Z : State} {h : Heap} {a0 av al ah au qa qb qc qd : Addr} {vr lw hg uq c1 c2 c3 c4 : Nat → Int32} {sz : Nat} (D : own_Dia Z h a0 av al ah au qa qb qc qd vr lw hg uq c1 c2 c3 c4 sz) : Fld Z h a0 "com/example/prolong/prolong/tree/DecisionDiagram" "cachedResult" "[I" (.ref qd) := by obtain ⟨-, -, -, -, -, -, -, -, z, -, -, -, -, -, -, -, -, -⟩ := D; exact z
theorem own_Dia.Fs {Z : State} {h : Heap} {a0 av al ah au qa qb qc qd : Addr} {vr lw hg uq c1 c2 c3 c4 : Nat → Int32} {sz : Nat} (D : own_Dia Z h a0 av al ah au qa qb qc qd vr lw hg uq c1 c2 c3 c4 sz) : Fld Z h a0 "com/example/prolong/prolong/tree/DecisionDiagram" "size" "I" (.int (own_n sz)) := by obtain ⟨-, -, -, -, -, -, -, -, -, z, -, -, -, -, -, -, -, -⟩ := D; exact z
theorem own_Dia.Aav {Z : State} {h : Heap} {a0 av al ah au qa qb qc qd : Addr} {vr lw hg uq c1 c2 c3 c4 : Nat → Int32} {sz : Nat} (D : own_Dia Z h a0 av al ah au qa qb qc qd vr lw hg uq c1 c2 c3 c4 sz) : own_Ar Z h av 1024 vr := by obtain ⟨-, -, -, -, -, -, -, -, -, -, z, -, -, -, -, -, -, -⟩ := D; exact z
theorem own_Dia.Aal {Z : State} {h : Heap} {a0 av al ah au qa qb qc qd : Addr} {vr lw hg uq c1 c2 c3 c4 : Nat → Int32} {sz : Nat} (D : own_Dia Z h a0 av al ah au qa qb qc qd vr lw hg uq c1 c2 c3 c4 sz) : own_Ar Z h al 1024 lw := by obtain ⟨-, -, -, -, -, -, -, -, -, -, -, z, -, -, -, -, -, -⟩ := D; exact z
theorem own_Dia.Aah {Z : State} {h : Heap} {a0 av al ah au qa qb qc qd : Addr} {vr lw hg uq c1 c2 c3 c4 : Nat → Int32} {sz : Nat} (D : own_Dia Z h a0 av al ah au qa qb qc qd vr lw hg uq c1 c2 c3 c4 sz) : own_Ar Z h ah 1024 hg := by obtain ⟨-, -, -, -, -, -, -, -, -, -, -, -, z, -, -, -, -, -⟩ := D; exact z
theorem own_Dia.Aau {Z : State} {h : Heap} {a0 av al ah au qa qb qc qd : Addr} {vr lw hg uq c1 c2 c3 c4 : Nat → Int32} {sz : Nat} (D : own_Dia Z h a0 av al ah au qa qb qc qd vr lw hg uq c1 c2 c3 c4 sz) : own_Ar Z h au 2048 uq := by obtain ⟨-, -, -, -, -, -, -, -, -, -, -, -, -, z, -, -, -, -⟩ := D; exact z
theorem own_Dia.Aqa {Z : State} {h : Heap} {a0 av al ah au qa qb qc qd : Addr} {vr lw hg uq c1 c2 c3 c4 : Nat → Int32} {sz : Nat} (D : own_Dia Z h a0 av al ah au qa qb qc qd vr lw hg uq c1 c2 c3 c4 sz) : own_Ar Z h qa 1024 c1 := by obtain ⟨-, -, -, -, -, -, -, -, -, -, -, -, -, -, z, -, -, -⟩ := D; exact z
theorem own_Dia.Aqb {Z : State} {h : Heap} {a0 av al ah au qa qb qc qd : Addr} {vr lw hg uq c1 c2 c3 c4 : Nat → Int32} {sz : Nat} (D : own_Dia Z h a0 av al ah au qa qb qc qd vr lw hg uq c1 c2 c3 c4 sz) : own_Ar Z h qb 1024 c2 := by obtain ⟨-, -, -, -, -, -, -, -, -, -, -, -, -, -, -, z, -, -⟩ := D; exact z
theorem own_Dia.Aqc {Z : State} {h : Heap} {a0 av al ah au qa qb qc qd : Addr} {vr lw hg uq c1 c2 c3 c4 : Nat → Int32} {sz : Nat} (D : own_Dia Z h a0 av al ah au qa qb qc qd vr lw hg uq c1 c2 c3 c4 sz) : own_Ar Z h qc 1024 c3 := by obtain ⟨-, -, -, -, -, -, -, -, -, -, -, -, -, -, -, -, z, -⟩ := D; exact z
theorem own_Dia.Aqd {Z : State} {h : Heap} {a0 av al ah au qa qb qc qd : Addr} {vr lw hg uq c1 c2 c3 c4 : Nat → Int32} {sz : Nat} (D : own_Dia Z h a0 av al ah au qa qb qc qd vr lw hg uq c1 c2 c3 c4 sz) : own_Ar Z h qd 1024 c4 := by obtain ⟨-, -, -, -, -, -, -, -, -, -, -, -, -, -, -, -, -, z⟩ := D; exact z
theorem own_Dia.ext {Z : State} {h h' : Heap} {a0 av al ah au qa qb qc qd : Addr} {vr lw hg uq c1 c2 c3 c4 : Nat → Int32} {sz : Nat} (D : own_Dia Z h a0 av al ah au qa qb qc qd vr lw hg uq c1 c2 c3 c4 sz) (E : Ext h h') : own_Dia Z h' a0 av al ah au qa qb qc qd vr lw hg uq c1 c2 c3 c4 sz := own_Dia.mk (D.E.ext E) (D.Fav.ext E) (D.Fal.ext E) (D.Fah.ext E) (D.Fau.ext E) (D.Fqa.ext E) (D.Fqb.ext E) (D.Fqc.ext E) (D.Fqd.ext E) (D.Fs.ext E) (D.Aav.ext E) (D.Aal.ext E) (D.Aah.ext E) (D.Aau.ext E) (D.Aqa.ext E) (D.Aqb.ext E) (D.Aqc.ext E) (D.Aqd.ext E)
theorem own_Dia.keep {Z : State} {h h' : Heap} {a0 av al ah au qa qb qc qd : Addr} {vr lw hg uq c1 c2 c3 c4 : Nat → Int32} {sz : Nat} {ws : List Addr} (D : own_Dia Z h a0 av al ah au qa qb qc qd vr lw hg uq c1 c2 c3 c4 sz) (K : Keep h h' ws) (q : ∀ y ∈ [a0, av, al, ah, au, qa, qb, qc, qd], y ∉ ws) : own_Dia Z h' a0 av al ah au qa qb qc qd vr lw hg uq c1 c2 c3 c4 sz := own_Dia.mk (D.E.keep K) (D.Fav.keep K (q _ (List.mem_of_getElem? (i := 0) rfl))) (D.Fal.keep K (q _ (List.mem_of_getElem? (i := 0) rfl))) (D.Fah.keep K (q _ (List.mem_of_getElem? (i := 0) rfl))) (D.Fau.keep K (q _ (List.mem_of_getElem? (i := 0) rfl))) (D.Fqa.keep K (q _ (List.mem_of_getElem? (i := 0) rfl))) (D.Fqb.keep K (q _ (List.mem_of_getElem? (i := 0) rfl))) (D.Fqc.keep K (q _ (List.mem_of_getElem? (i := 0) rfl))) (D.Fqd.keep K (q _ (List.mem_of_getElem? (i := 0) rfl))) (D.Fs.keep K (q _ (List.mem_of_getElem? (i := 0) rfl))) (D.Aav.keep K (q _ (List.mem_of_getElem? (i := 1) rfl))) (D.Aal.keep K (q _ (List.mem_of_getElem? (i := 2) rfl))) (D.Aah.keep K (q _ (List.mem_of_getElem? (i := 3) rfl))) (D.Aau.keep K (q _ (List.mem_of_getElem? (i := 4) rfl))) (D.Aqa.keep K (q _ (List.mem_of_getElem? (i := 5) rfl))) (D.Aqb.keep K (q _ (List.mem_of_getElem? (i := 6) rfl))) (D.Aqc.keep K (q _ (List.mem_of_getElem? (i := 7) rfl))) (D.Aqd.keep K (q _ (List.mem_of_getElem? (i := 8) rfl)))
theorem own_Dia.lt {Z : State} {h : Heap} {a0 av al ah au qa qb qc qd : Addr} {vr lw hg uq c1 c2 c3 c4 : Nat → Int32} {sz : Nat} (D : own_Dia Z h a0 av al ah au qa qb qc qd vr lw hg uq c1 c2 c3 c4 sz) : ∀ y ∈ [a0, av, al, ah, au, qa, qb, qc, qd], y < h.size := (allS D.E.lt (allS D.Aav.lt (allS D.Aal.lt (allS D.Aah.lt (allS D.Aau.lt (allS D.Aqa.lt (allS D.Aqb.lt (allS D.Aqc.lt (allS D.Aqd.lt all0)))))))))
theorem own_Dia.ns {Z : State} {h : Heap} {a0 av al ah au qa qb qc qd : Addr} {vr lw hg uq c1 c2 c3 c4 : Nat → Int32} {sz : Nat} (D : own_Dia Z h a0 av al ah au qa qb qc qd vr lw hg uq c1 c2 c3 c4 sz) : ∀ y ∈ [a0, av, al, ah, au, qa, qb, qc, qd], ∀ c : Cell, h[y]? = some c → c.vm.isStatics = false := (allS (own_exns D.E) (allS D.Aav.ns (allS D.Aal.ns (allS D.Aah.ns (allS D.Aau.ns (allS D.Aqa.ns (allS D.Aqb.ns (allS D.Aqc.ns (allS D.Aqd.ns all0)))))))))
theorem own_dj {L M : List Addr} {n : Nat} (h1 : ∀ y ∈ L, y < n) (h2 : ∀ y ∈ M, n ≤ y) : ∀ y ∈ L, y ∉ M := fun y q r => absurd (h1 y q) (Nat.not_lt.mpr (h2 y r))
theorem own_djs {L M : List Addr} (h : ∀ y ∈ L, y ∉ M) : ∀ y ∈ M, y ∉ L := fun y q r => h y r q
theorem own_dj1 {L M : List Addr} {a : Addr} (h : ∀ y ∈ L, y ∉ a :: M) : ∀ y ∈ L, y ∉ [a] := fun y q r => h y q (List.mem_cons.mpr (Or.inl (List.mem_singleton.mp r)))
def own_Sep (n0 : Nat) (L : List Addr) : Prop := L.Nodup ∧ ∀ y ∈ L, n0 ≤ y
theorem own_Sep.nd {n0 : Nat} {L : List Addr} (S : own_Sep n0 L) : L.Nodup := S.1
theorem own_Sep.ge {n0 : Nat} {L : List Addr} (S : own_Sep n0 L) : ∀ y ∈ L, n0 ≤ y := S.2
theorem own_Sep.nil (n0 : Nat) : own_Sep n0 [] := ⟨List.nodup_nil, fun _ q => nomatch q⟩
theorem own_Sep.cons {n0 : Nat} {L : List Addr} {a : Addr} (S : own_Sep n0 L) (h : ∀ y ∈ L, a ≠ y) (g : n0 ≤ a) : own_Sep n0 (a :: L) := ⟨List.nodup_cons.mpr ⟨fun q => h a q rfl, S.nd⟩, fun y q => (List.mem_cons.mp q).elim (fun z => z ▸ g) (S.ge y)⟩
theorem d1_0 : decode prog_72_method_1_code 0 = .ok (.aload_n 0, 1) := by decide +kernel
theorem d1_1 : decode prog_72_method_1_code 1 = .ok (.invokespecial 3, 3) := by decide +kernel
theorem d1_4 : decode prog_72_method_1_code 4 = .ok (.aload_n 0, 1) := by decide +kernel
theorem d1_5 : decode prog_72_method_1_code 5 = .ok (.sipush 1024, 3) := by decide +kernel
theorem d1_8 : decode prog_72_method_1_code 8 = .ok (.newarray .int, 2) := by decide +kernel
theorem d1_10 : decode prog_72_method_1_code 10 = .ok (.putfield 11, 3) := by decide +kernel
theorem d1_13 : decode prog_72_method_1_code 13 = .ok (.aload_n 0, 1) := by decide +kernel
theorem d1_14 : decode prog_72_method_1_code 14 = .ok (.sipush 1024, 3) := by decide +kernel
theorem d1_17 : decode prog_72_method_1_code 17 = .ok (.newarray .int, 2) := by decide +kernel
theorem d1_19 : decode prog_72_method_1_code 19 = .ok (.putfield 15, 3) := by decide +kernel
theorem d1_22 : decode prog_72_method_1_code 22 = .ok (.aload_n 0, 1) := by decide +kernel
theorem d1_23 : decode prog_72_method_1_code 23 = .ok (.sipush 1024, 3) := by decide +kernel
theorem d1_26 : decode prog_72_method_1_code 26 = .ok (.newarray .int, 2) := by decide +kernel
theorem d1_28 : decode prog_72_method_1_code 28 = .ok (.putfield 18, 3) := by decide +kernel
theorem d1_31 : decode prog_72_method_1_code 31 = .ok (.aload_n 0, 1) := by decide +kernel
theorem d1_32 : decode prog_72_method_1_code 32 = .ok (.sipush 2048, 3) := by decide +kernel
theorem d1_35 : decode prog_72_method_1_code 35 = .ok (.invokestatic 21, 3) := by decide +kernel
theorem d1_38 : decode prog_72_method_1_code 38 = .ok (.putfield 25, 3) := by decide +kernel
theorem d1_41 : decode prog_72_method_1_code 41 = .ok (.aload_n 0, 1) := by decide +kernel
theorem d1_42 : decode prog_72_method_1_code 42 = .ok (.sipush 1024, 3) := by decide +kernel
theorem d1_45 : decode prog_72_method_1_code 45 = .ok (.invokestatic 21, 3) := by decide +kernel
theorem d1_48 : decode prog_72_method_1_code 48 = .ok (.putfield 28, 3) := by decide +kernel
theorem d1_51 : decode prog_72_method_1_code 51 = .ok (.aload_n 0, 1) := by decide +kernel
theorem d1_52 : decode prog_72_method_1_code 52 = .ok (.sipush 1024, 3) := by decide +kernel
theorem d1_55 : decode prog_72_method_1_code 55 = .ok (.newarray .int, 2) := by decide +kernel
theorem d1_57 : decode prog_72_method_1_code 57 = .ok (.putfield 31, 3) := by decide +kernel
theorem d1_60 : decode prog_72_method_1_code 60 = .ok (.aload_n 0, 1) := by decide +kernel
theorem d1_61 : decode prog_72_method_1_code 61 = .ok (.sipush 1024, 3) := by decide +kernel
theorem d1_64 : decode prog_72_method_1_code 64 = .ok (.newarray .int, 2) := by decide +kernel
theorem d1_66 : decode prog_72_method_1_code 66 = .ok (.putfield 34, 3) := by decide +kernel
theorem d1_69 : decode prog_72_method_1_code 69 = .ok (.aload_n 0, 1) := by decide +kernel
theorem d1_70 : decode prog_72_method_1_code 70 = .ok (.sipush 1024, 3) := by decide +kernel
theorem d1_73 : decode prog_72_method_1_code 73 = .ok (.newarray .int, 2) := by decide +kernel
theorem d1_75 : decode prog_72_method_1_code 75 = .ok (.putfield 37, 3) := by decide +kernel
theorem d1_78 : decode prog_72_method_1_code 78 = .ok (.aload_n 0, 1) := by decide +kernel
theorem d1_79 : decode prog_72_method_1_code 79 = .ok (.getfield 11, 3) := by decide +kernel
theorem d1_82 : decode prog_72_method_1_code 82 = .ok (.iconst 0, 1) := by decide +kernel
theorem d1_83 : decode prog_72_method_1_code 83 = .ok (.ldc 40, 2) := by decide +kernel
theorem d1_85 : decode prog_72_method_1_code 85 = .ok (.iastore, 1) := by decide +kernel
theorem d1_86 : decode prog_72_method_1_code 86 = .ok (.aload_n 0, 1) := by decide +kernel
theorem d1_87 : decode prog_72_method_1_code 87 = .ok (.getfield 11, 3) := by decide +kernel
theorem d1_90 : decode prog_72_method_1_code 90 = .ok (.iconst 1, 1) := by decide +kernel
theorem d1_91 : decode prog_72_method_1_code 91 = .ok (.ldc 40, 2) := by decide +kernel
theorem d1_93 : decode prog_72_method_1_code 93 = .ok (.iastore, 1) := by decide +kernel
theorem d1_94 : decode prog_72_method_1_code 94 = .ok (.aload_n 0, 1) := by decide +kernel
theorem d1_95 : decode prog_72_method_1_code 95 = .ok (.iconst 2, 1) := by decide +kernel
theorem d1_96 : decode prog_72_method_1_code 96 = .ok (.putfield 41, 3) := by decide +kernel
theorem d1_99 : decode prog_72_method_1_code 99 = .ok (.return_, 1) := by decide +kernel
theorem pd__I_A_I : parseMethodDescriptor "(I)[I" = some ⟨[.int], some (.array .int)⟩ := by decide +kernel
def QrmInit (Z : State) (a0 : Addr) (h0 : Heap) (n0 : Nat) (v : Option Value) (h : Heap) (L : List Loc) : Prop := ∃ av al ah au qa qb qc qd : Addr, v = none ∧ Fr n0 L ∧ Keep h0 h [a0] ∧ (∀ y ∈ [av, al, ah, au, qa, qb, qc, qd], h0.size ≤ y) ∧ own_Sep n0 [a0, av, al, ah, au, qa, qb, qc, qd] ∧ own_Dia Z h a0 av al ah au qa qb qc qd (own_up (own_up (fun _ => 0) 0 (2147483647 : Int32)) 1 (2147483647 : Int32)) (fun _ => 0) (fun _ => 0) (fun _ => -1) (fun _ => -1) (fun _ => 0) (fun _ => 0) (fun _ => 0) 2
set_option maxRecDepth 65536 in
set_option maxHeartbeats 40000000 in
theorem rmInit (l : Launch) (Z : State) (av0 : Array Value) (hw : ∀ d ∈ tables_1, d.before av0 Z = true) (ws : List Jvm.Cond) (a0 : Addr) (h0 : Heap) (n0 : Nat) (Z0 : n0 ≤ h0.size) (hE : Exa Z h0 a0 "com/example/prolong/prolong/tree/DecisionDiagram") (hga : n0 ≤ a0) (hF_size : Fld Z h0 a0 "com/example/prolong/prolong/tree/DecisionDiagram" "size" "I" (.int (0 : Int32))) (hF_variable : Fld Z h0 a0 "com/example/prolong/prolong/tree/DecisionDiagram" "variable" "[I" .null) (hF_low : Fld Z h0 a0 "com/example/prolong/prolong/tree/DecisionDiagram" "low" "[I" .null) (hF_high : Fld Z h0 a0 "com/example/prolong/prolong/tree/DecisionDiagram" "high" "[I" .null) (hF_unique : Fld Z h0 a0 "com/example/prolong/prolong/tree/DecisionDiagram" "unique" "[I" .null) (hF_cachedIf : Fld Z h0 a0 "com/example/prolong/prolong/tree/DecisionDiagram" "cachedIf" "[I" .null) (hF_cachedThen : Fld Z h0 a0 "com/example/prolong/prolong/tree/DecisionDiagram" "cachedThen" "[I" .null) (hF_cachedElse : Fld Z h0 a0 "com/example/prolong/prolong/tree/DecisionDiagram" "cachedElse" "[I" .null) (hF_cachedResult : Fld Z h0 a0 "com/example/prolong/prolong/tree/DecisionDiagram" "cachedResult" "[I" .null) :
    own_Met l mN2 prog_72_method_1_code 1 none ws ({ frames := 2, cells := 8, slots := 9216, locals := 29 } : Room) #[(.ref a0)] Z h0 (QrmInit Z a0 h0 n0) := by
  refine MetFree.of_bodySF (plainFor_of_name pn_DecisionDiagram) hisR ?_
  intro p e s m args below meth c s₁ Bd hml0 hP hK
  obtain ⟨rfl, hZ, hh⟩ := hP
  have hml : c.maxLocals = 1 := hml0
  obtain ⟨hx, hby, hown, hnm, X0, e0⟩ := own_start Bd hml0 hh
  have N0 := Fr.nil n0
  have pre0 : ∀ tz, oS p e below s₁ (mkF m 0 #[rv a0] []) tz → Steps p.tables e below (s₁.setTop (entryFrame m #[(.ref a0)] 1)) tz := fun tz kz => castTop (by first | (simp [entryFrame, mkF, argsToLocals, Value.category]; done) | rfl) kz
  obtain ⟨T1, X1, e1, st1⟩ := initO X0 hx hZ hown (hw _ (own_w 9 rfl)) (hw _ (own_w 10 rfl)) (hw _ (own_w 11 rfl)) e0 (g := (mkF m 1 #[rv a0] [(.ref a0)])) rfl (by rw [hml]; rfl) rfl (hb hby d1_1) (by decide) (W := 0) (by show 2 * 0 + _ ≤ _; exact Nat.le_of_eq rfl) (by decide)
  obtain ⟨T2, h2, k2, X2, e2, E2, A2, st2⟩ := newP X1 hx hZ (hw _ (own_w 12 rfl)) e1 (g := (mkF m 8 #[rv a0] [(.int 1024), (.ref a0)])) rfl (hb hby d1_8) rfl (by decide) (cap := 1024) (by decide) (by decide) (by decide) (by decide)
  obtain ⟨b2, g2⟩ : ∃ z, z = h0.size := ⟨_, rfl⟩
  rw [← g2] at A2 st2
  have ne_a0_b2 : a0 ≠ b2 := Nat.ne_of_lt (Nat.lt_of_lt_of_le hE.lt (Nat.le_of_eq g2.symm))
  have ge_b2 : n0 ≤ b2 := Nat.le_trans Z0 (Nat.le_of_eq g2.symm)
  have sz_b2 : h0.size ≤ b2 := Nat.le_of_eq g2.symm
  have Z2 : n0 ≤ h2.size := Nat.le_trans Z0 E2.1
  have K2 : Keep h0 h2 [a0] := (Keep.refl h0 [a0]).ext E2
  have V2 : own_Ar Z h2 b2 1024 (fun _ => 0) := own_new0 1024 (by decide) A2
  have f3 := (hF_variable.ext E2)
  have f4 := (hE.ext E2)
  obtain ⟨T5, h5, X5, e5, W5, st5⟩ := putF X2 hx hZ hown (host := "") (Or.inl (hw _ (own_w 13 rfl))) Via.refl e2 f3 f4 (Or.inl (hw _ (own_w 14 rfl))) (hw _ (own_w 4 rfl)) (ty := (.array .int)) (by decide) rfl rfl (g := (mkF m 10 #[rv a0] [(.ref b2), (.ref a0)])) rfl rfl (hb hby d1_10)
  have N5 := Fr.snoc X5 N0 hga
  have Z5 : n0 ≤ h5.size := Nat.le_trans Z2 (Nat.le_of_eq W5.size.symm)
  have K5 : Keep h0 h5 [a0] := K2.wr W5 (Or.inl (List.mem_of_getElem? (i := 0) rfl))
  have Fw5 := f3.same W5
  obtain ⟨T6, h6, k6, X6, e6, E6, A6, st6⟩ := newP X5 hx hZ (hw _ (own_w 12 rfl)) e5 (g := (mkF m 17 #[rv a0] [(.int 1024), (.ref a0)])) rfl (hb hby d1_17) rfl (by decide) (cap := 1024) (by decide) (by decide) (by decide) (by decide)
  obtain ⟨b6, g6⟩ : ∃ z, z = h5.size := ⟨_, rfl⟩
  rw [← g6] at A6 st6
  have f7 := (f4.wr W5)
  have ne_a0_b6 : a0 ≠ b6 := Nat.ne_of_lt (Nat.lt_of_lt_of_le f7.lt (Nat.le_of_eq g6.symm))
  have f8 := (V2.other W5 (Ne.symm ne_a0_b2))
  have ne_b2_b6 : b2 ≠ b6 := Nat.ne_of_lt (Nat.lt_of_lt_of_le f8.lt (Nat.le_of_eq g6.symm))
  have ge_b6 : n0 ≤ b6 := Nat.le_trans Z5 (Nat.le_of_eq g6.symm)
  have sz_b6 : h0.size ≤ b6 := Nat.le_trans K5.1 (Nat.le_of_eq g6.symm)
  have Z6 : n0 ≤ h6.size := Nat.le_trans Z5 E6.1
  have K6 : Keep h0 h6 [a0] := K5.ext E6
  have V6 : own_Ar Z h6 b6 1024 (fun _ => 0) := own_new0 1024 (by decide) A6
  have f9 := (((hF_low.ext E2).other W5 (Or.inr (slot_ne (Or.inl (hw _ (own_w 16 rfl))) (Or.inl (hw _ (own_w 14 rfl))) (by decide) (t := (.array .int)) (t' := (.array .int)) (by decide) (by decide)))).ext E6)
  have f10 := (f7.ext E6)
  obtain ⟨T11, h11, X11, e11, W11, st11⟩ := putF X6 hx hZ hown (host := "") (Or.inl (hw _ (own_w 15 rfl))) Via.refl e6 f9 f10 (Or.inl (hw _ (own_w 16 rfl))) (hw _ (own_w 4 rfl)) (ty := (.array .int)) (by decide) rfl rfl (g := (mkF m 19 #[rv a0] [(.ref b6), (.ref a0)])) rfl rfl (hb hby d1_19)
  have N11 := Fr.snoc X11 N5 hga
  have Z11 : n0 ≤ h11.size := Nat.le_trans Z6 (Nat.le_of_eq W11.size.symm)
  have K11 : Keep h0 h11 [a0] := K6.wr W11 (Or.inl (List.mem_of_getElem? (i := 0) rfl))
  have Fw11 := f9.same W11
  obtain ⟨T12, h12, k12, X12, e12, E12, A12, st12⟩ := newP X11 hx hZ (hw _ (own_w 12 rfl)) e11 (g := (mkF m 26 #[rv a0] [(.int 1024), (.ref a0)])) rfl (hb hby d1_26) rfl (by decide) (cap := 1024) (by decide) (by decide) (by decide) (by decide)
  obtain ⟨b12, g12⟩ : ∃ z, z = h11.size := ⟨_, rfl⟩
  rw [← g12] at A12 st12
  have f13 := (f10.wr W11)
  have ne_a0_b12 : a0 ≠ b12 := Nat.ne_of_lt (Nat.lt_of_lt_of_le f13.lt (Nat.le_of_eq g12.symm))
  have f14 := ((f8.ext E6).other W11 (Ne.symm ne_a0_b2))
  have ne_b2_b12 : b2 ≠ b12 := Nat.ne_of_lt (Nat.lt_of_lt_of_le f14.lt (Nat.le_of_eq g12.symm))
  have f15 := (V6.other W11 (Ne.symm ne_a0_b6))
  have ne_b6_b12 : b6 ≠ b12 := Nat.ne_of_lt (Nat.lt_of_lt_of_le f15.lt (Nat.le_of_eq g12.symm))
  have ge_b12 : n0 ≤ b12 := Nat.le_trans Z11 (Nat.le_of_eq g12.symm)
  have sz_b12 : h0.size ≤ b12 := Nat.le_trans K11.1 (Nat.le_of_eq g12.symm)
  have Z12 : n0 ≤ h12.size := Nat.le_trans Z11 E12.1
  have K12 : Keep h0 h12 [a0] := K11.ext E12
  have V12 : own_Ar Z h12 b12 1024 (fun _ => 0) := own_new0 1024 (by decide) A12
  have f16 := (((((hF_high.ext E2).other W5 (Or.inr (slot_ne (Or.inl (hw _ (own_w 18 rfl))) (Or.inl (hw _ (own_w 14 rfl))) (by decide) (t := (.array .int)) (t' := (.array .int)) (by decide) (by decide)))).ext E6).other W11 (Or.inr (slot_ne (Or.inl (hw _ (own_w 18 rfl))) (Or.inl (hw _ (own_w 16 rfl))) (by decide) (t := (.array .int)) (t' := (.array .int)) (by decide) (by decide)))).ext E12)
  have f17 := (f13.ext E12)
  obtain ⟨T18, h18, X18, e18, W18, st18⟩ := putF X12 hx hZ hown (host := "") (Or.inl (hw _ (own_w 17 rfl))) Via.refl e12 f16 f17 (Or.inl (hw _ (own_w 18 rfl))) (hw _ (own_w 4 rfl)) (ty := (.array .int)) (by decide) rfl rfl (g := (mkF m 28 #[rv a0] [(.ref b12), (.ref a0)])) rfl rfl (hb hby d1_28)
  have N18 := Fr.snoc X18 N11 hga
  have Z18 : n0 ≤ h18.size := Nat.le_trans Z12 (Nat.le_of_eq W18.size.symm)
  have K18 : Keep h0 h18 [a0] := K12.wr W18 (Or.inl (List.mem_of_getElem? (i := 0) rfl))
  have Fw18 := f16.same W18
  obtain ⟨_, T19, Lc19, X19, hQ19, st19⟩ := own_callS (W := 1) (y := mN1) X18 hx hZ hown (hw _ (own_w 19 rfl)) (hw _ (own_w 20 rfl)) (hw _ (own_w 5 rfl)) (hw _ (own_w 21 rfl)) (by decide) (rmEmpty2048 l Z av0 hw []  h18 n0 Z18 ) (by decide) (by decide) (g := (mkF m 35 #[rv a0] [(.int 2048), (.ref a0)])) rfl (by rw [hml]; rfl) (argsL := [(.int 2048)]) (rest := [(.ref a0)]) (lenOf pd__I_A_I rfl) rfl (hb hby d1_35) rfl e18 (by decide : 3 + 1 ≤ _) (by decide : 3072 + 2048 ≤ _)
  obtain ⟨b19, rfl, N19q, gb19, K19, B19⟩ := hQ19
  have N19 := Fr.app N18 N19q
  have e19 : T19.heap = T19.heap := rfl
  have f20 := (f17.wr W18)
  have ne_a0_b19 : a0 ≠ b19 := Nat.ne_of_lt (Nat.lt_of_lt_of_le f20.lt gb19)
  have f21 := (V12.other W18 (Ne.symm ne_a0_b12))
  have ne_b12_b19 : b12 ≠ b19 := Nat.ne_of_lt (Nat.lt_of_lt_of_le f21.lt gb19)
  have f22 := ((f14.ext E12).other W18 (Ne.symm ne_a0_b2))
  have ne_b2_b19 : b2 ≠ b19 := Nat.ne_of_lt (Nat.lt_of_lt_of_le f22.lt gb19)
  have f23 := ((f15.ext E12).other W18 (Ne.symm ne_a0_b6))
  have ne_b6_b19 : b6 ≠ b19 := Nat.ne_of_lt (Nat.lt_of_lt_of_le f23.lt gb19)
  have ge_b19 : n0 ≤ b19 := Nat.le_trans Z18 gb19
  have sz_b19 : h0.size ≤ b19 := Nat.le_trans K18.1 gb19
  have Zk19 : n0 ≤ T19.heap.size := Nat.le_trans Z18 K19.1
  have Kk19 : Keep h0 T19.heap [a0] := K18.trans K19 all0
  have f24 := (((((((hF_unique.ext E2).other W5 (Or.inr (slot_ne (Or.inl (hw _ (own_w 27 rfl))) (Or.inl (hw _ (own_w 14 rfl))) (by decide) (t := (.array .int)) (t' := (.array .int)) (by decide) (by decide)))).ext E6).other W11 (Or.inr (slot_ne (Or.inl (hw _ (own_w 27 rfl))) (Or.inl (hw _ (own_w 16 rfl))) (by decide) (t := (.array .int)) (t' := (.array .int)) (by decide) (by decide)))).ext E12).other W18 (Or.inr (slot_ne (Or.inl (hw _ (own_w 27 rfl))) (Or.inl (hw _ (own_w 18 rfl))) (by decide) (t := (.array .int)) (t' := (.array .int)) (by decide) (by decide)))).keep K19 nin0)
  have f25 := (f20.keep K19)
  obtain ⟨T26, h26, X26, e26, W26, st26⟩ := putF X19 hx hZ hown (host := "") (Or.inl (hw _ (own_w 26 rfl))) Via.refl e19 f24 f25 (Or.inl (hw _ (own_w 27 rfl))) (hw _ (own_w 4 rfl)) (ty := (.array .int)) (by decide) rfl rfl (g := (mkF m 38 #[rv a0] [(.ref b19), (.ref a0)])) rfl rfl (hb hby d1_38)
  have N26 := Fr.snoc X26 N19 hga
  have Z26 : n0 ≤ h26.size := Nat.le_trans Zk19 (Nat.le_of_eq W26.size.symm)
  have K26 : Keep h0 h26 [a0] := Kk19.wr W26 (Or.inl (List.mem_of_getElem? (i := 0) rfl))
  have Fw26 := f24.same W26
  obtain ⟨_, T27, Lc27, X27, hQ27, st27⟩ := own_callS (W := 1) (y := mN1) X26 hx hZ hown (hw _ (own_w 19 rfl)) (hw _ (own_w 20 rfl)) (hw _ (own_w 5 rfl)) (hw _ (own_w 21 rfl)) (by decide) (rmEmpty1024 l Z av0 hw []  h26 n0 Z26 ) (by decide) (by decide) (g := (mkF m 45 #[rv a0] [(.int 1024), (.ref a0)])) rfl (by rw [hml]; rfl) (argsL := [(.int 1024)]) (rest := [(.ref a0)]) (lenOf pd__I_A_I rfl) rfl (hb hby d1_45) rfl e26 (by decide : 4 + 1 ≤ _) (by decide : 5120 + 1024 ≤ _)
  obtain ⟨b27, rfl, N27q, gb27, K27, B27⟩ := hQ27
  have N27 := Fr.app N26 N27q
  have e27 : T27.heap = T27.heap := rfl
  have f28 := (f25.wr W26)
  have ne_a0_b27 : a0 ≠ b27 := Nat.ne_of_lt (Nat.lt_of_lt_of_le f28.lt gb27)
  have f29 := ((f21.keep K19 nin0).other W26 (Ne.symm ne_a0_b12))
  have ne_b12_b27 : b12 ≠ b27 := Nat.ne_of_lt (Nat.lt_of_lt_of_le f29.lt gb27)
  have f30 := (B19.other W26 (Ne.symm ne_a0_b19))
  have ne_b19_b27 : b19 ≠ b27 := Nat.ne_of_lt (Nat.lt_of_lt_of_le f30.lt gb27)
  have f31 := ((f22.keep K19 nin0).other W26 (Ne.symm ne_a0_b2))
  have ne_b2_b27 : b2 ≠ b27 := Nat.ne_of_lt (Nat.lt_of_lt_of_le f31.lt gb27)
  have f32 := ((f23.keep K19 nin0).other W26 (Ne.symm ne_a0_b6))
  have ne_b6_b27 : b6 ≠ b27 := Nat.ne_of_lt (Nat.lt_of_lt_of_le f32.lt gb27)
  have ge_b27 : n0 ≤ b27 := Nat.le_trans Z26 gb27
  have sz_b27 : h0.size ≤ b27 := Nat.le_trans K26.1 gb27
  have Zk27 : n0 ≤ T27.heap.size := Nat.le_trans Z26 K27.1
  have Kk27 : Keep h0 T27.heap [a0] := K26.trans K27 all0
  have f33 := (((((((((hF_cachedIf.ext E2).other W5 (Or.inr (slot_ne (Or.inl (hw _ (own_w 29 rfl))) (Or.inl (hw _ (own_w 14 rfl))) (by decide) (t := (.array .int)) (t' := (.array .int)) (by decide) (by decide)))).ext E6).other W11 (Or.inr (slot_ne (Or.inl (hw _ (own_w 29 rfl))) (Or.inl (hw _ (own_w 16 rfl))) (by decide) (t := (.array .int)) (t' := (.array .int)) (by decide) (by decide)))).ext E12).other W18 (Or.inr (slot_ne (Or.inl (hw _ (own_w 29 rfl))) (Or.inl (hw _ (own_w 18 rfl))) (by decide) (t := (.array .int)) (t' := (.array .int)) (by decide) (by decide)))).keep K19 nin0).other W26 (Or.inr (slot_ne (Or.inl (hw _ (own_w 29 rfl))) (Or.inl (hw _ (own_w 27 rfl))) (by decide) (t := (.array .int)) (t' := (.array .int)) (by decide) (by decide)))).keep K27 nin0)
  have f34 := (f28.keep K27)
  obtain ⟨T35, h35, X35, e35, W35, st35⟩ := putF X27 hx hZ hown (host := "") (Or.inl (hw _ (own_w 28 rfl))) Via.refl e27 f33 f34 (Or.inl (hw _ (own_w 29 rfl))) (hw _ (own_w 4 rfl)) (ty := (.array .int)) (by decide) rfl rfl (g := (mkF m 48 #[rv a0] [(.ref b27), (.ref a0)])) rfl rfl (hb hby d1_48)
  have N35 := Fr.snoc X35 N27 hga
  have Z35 : n0 ≤ h35.size := Nat.le_trans Zk27 (Nat.le_of_eq W35.size.symm)
  have K35 : Keep h0 h35 [a0] := Kk27.wr W35 (Or.inl (List.mem_of_getElem? (i := 0) rfl))
  have Fw35 := f33.same W35
  obtain ⟨T36, h36, k36, X36, e36, E36, A36, st36⟩ := newP X35 hx hZ (hw _ (own_w 12 rfl)) e35 (g := (mkF m 55 #[rv a0] [(.int 1024), (.ref a0)])) rfl (hb hby d1_55) rfl (by decide) (cap := 1024) (by decide) (by decide) (by decide) (by decide)
  obtain ⟨b36, g36⟩ : ∃ z, z = h35.size := ⟨_, rfl⟩
  rw [← g36] at A36 st36
  have f37 := (f34.wr W35)
  have ne_a0_b36 : a0 ≠ b36 := Nat.ne_of_lt (Nat.lt_of_lt_of_le f37.lt (Nat.le_of_eq g36.symm))
  have f38 := ((f29.keep K27 nin0).other W35 (Ne.symm ne_a0_b12))
  have ne_b12_b36 : b12 ≠ b36 := Nat.ne_of_lt (Nat.lt_of_lt_of_le f38.lt (Nat.le_of_eq g36.symm))
  have f39 := ((f30.keep K27 nin0).other W35 (Ne.symm ne_a0_b19))
  have ne_b19_b36 : b19 ≠ b36 := Nat.ne_of_lt (Nat.lt_of_lt_of_le f39.lt (Nat.le_of_eq g36.symm))
  have f40 := ((f31.keep K27 nin0).other W35 (Ne.symm ne_a0_b2))
  have ne_b2_b36 : b2 ≠ b36 := Nat.ne_of_lt (Nat.lt_of_lt_of_le f40.lt (Nat.le_of_eq g36.symm))
  have f41 := (B27.other W35 (Ne.symm ne_a0_b27))
  have ne_b27_b36 : b27 ≠ b36 := Nat.ne_of_lt (Nat.lt_of_lt_of_le f41.lt (Nat.le_of_eq g36.symm))
  have f42 := ((f32.keep K27 nin0).other W35 (Ne.symm ne_a0_b6))
  have ne_b6_b36 : b6 ≠ b36 := Nat.ne_of_lt (Nat.lt_of_lt_of_le f42.lt (Nat.le_of_eq g36.symm))
  have ge_b36 : n0 ≤ b36 := Nat.le_trans Z35 (Nat.le_of_eq g36.symm)
  have sz_b36 : h0.size ≤ b36 := Nat.le_trans K35.1 (Nat.le_of_eq g36.symm)
  have Z36 : n0 ≤ h36.size := Nat.le_trans Z35 E36.1
  have K36 : Keep h0 h36 [a0] := K35.ext E36
  have V36 : own_Ar Z h36 b36 1024 (fun _ => 0) := own_new0 1024 (by decide) A36
  have f43 := (((((((((((hF_cachedThen.ext E2).other W5 (Or.inr (slot_ne (Or.inl (hw _ (own_w 31 rfl))) (Or.inl (hw _ (own_w 14 rfl))) (by decide) (t := (.array .int)) (t' := (.array .int)) (by decide) (by decide)))).ext E6).other W11 (Or.inr (slot_ne (Or.inl (hw _ (own_w 31 rfl))) (Or.inl (hw _ (own_w 16 rfl))) (by decide) (t := (.array .int)) (t' := (.array .int)) (by decide) (by decide)))).ext E12).other W18 (Or.inr (slot_ne (Or.inl (hw _ (own_w 31 rfl))) (Or.inl (hw _ (own_w 18 rfl))) (by decide) (t := (.array .int)) (t' := (.array .int)) (by decide) (by decide)))).keep K19 nin0).other W26 (Or.inr (slot_ne (Or.inl (hw _ (own_w 31 rfl))) (Or.inl (hw _ (own_w 27 rfl))) (by decide) (t := (.array .int)) (t' := (.array .int)) (by decide) (by decide)))).keep K27 nin0).other W35 (Or.inr (slot_ne (Or.inl (hw _ (own_w 31 rfl))) (Or.inl (hw _ (own_w 29 rfl))) (by decide) (t := (.array .int)) (t' := (.array .int)) (by decide) (by decide)))).ext E36)
  have f44 := (f37.ext E36)
  obtain ⟨T45, h45, X45, e45, W45, st45⟩ := putF X36 hx hZ hown (host := "") (Or.inl (hw _ (own_w 30 rfl))) Via.refl e36 f43 f44 (Or.inl (hw _ (own_w 31 rfl))) (hw _ (own_w 4 rfl)) (ty := (.array .int)) (by decide) rfl rfl (g := (mkF m 57 #[rv a0] [(.ref b36), (.ref a0)])) rfl rfl (hb hby d1_57)
  have N45 := Fr.snoc X45 N35 hga
  have Z45 : n0 ≤ h45.size := Nat.le_trans Z36 (Nat.le_of_eq W45.size.symm)
  have K45 : Keep h0 h45 [a0] := K36.wr W45 (Or.inl (List.mem_of_getElem? (i := 0) rfl))
  have Fw45 := f43.same W45
  obtain ⟨T46, h46, k46, X46, e46, E46, A46, st46⟩ := newP X45 hx hZ (hw _ (own_w 12 rfl)) e45 (g := (mkF m 64 #[rv a0] [(.int 1024), (.ref a0)])) rfl (hb hby d1_64) rfl (by decide) (cap := 1024) (by decide) (by decide) (by decide) (by decide)
  obtain ⟨b46, g46⟩ : ∃ z, z = h45.size := ⟨_, rfl⟩
  rw [← g46] at A46 st46
  have f47 := (f44.wr W45)
  have ne_a0_b46 : a0 ≠ b46 := Nat.ne_of_lt (Nat.lt_of_lt_of_le f47.lt (Nat.le_of_eq g46.symm))
  have f48 := ((f38.ext E36).other W45 (Ne.symm ne_a0_b12))
  have ne_b12_b46 : b12 ≠ b46 := Nat.ne_of_lt (Nat.lt_of_lt_of_le f48.lt (Nat.le_of_eq g46.symm))
  have f49 := ((f39.ext E36).other W45 (Ne.symm ne_a0_b19))
  have ne_b19_b46 : b19 ≠ b46 := Nat.ne_of_lt (Nat.lt_of_lt_of_le f49.lt (Nat.le_of_eq g46.symm))
  have f50 := ((f40.ext E36).other W45 (Ne.symm ne_a0_b2))
  have ne_b2_b46 : b2 ≠ b46 := Nat.ne_of_lt (Nat.lt_of_lt_of_le f50.lt (Nat.le_of_eq g46.symm))
  have f51 := ((f41.ext E36).other W45 (Ne.symm ne_a0_b27))
  have ne_b27_b46 : b27 ≠ b46 := Nat.ne_of_lt (Nat.lt_of_lt_of_le f51.lt (Nat.le_of_eq g46.symm))
  have f52 := (V36.other W45 (Ne.symm ne_a0_b36))
  have ne_b36_b46 : b36 ≠ b46 := Nat.ne_of_lt (Nat.lt_of_lt_of_le f52.lt (Nat.le_of_eq g46.symm))
  have f53 := ((f42.ext E36).other W45 (Ne.symm ne_a0_b6))
  have ne_b6_b46 : b6 ≠ b46 := Nat.ne_of_lt (Nat.lt_of_lt_of_le f53.lt (Nat.le_of_eq g46.symm))
  have ge_b46 : n0 ≤ b46 := Nat.le_trans Z45 (Nat.le_of_eq g46.symm)
  have sz_b46 : h0.size ≤ b46 := Nat.le_trans K45.1 (Nat.le_of_eq g46.symm)
  have Z46 : n0 ≤ h46.size := Nat.le_trans Z45 E46.1
  have K46 : Keep h0 h46 [a0] := K45.ext E46
  have V46 : own_Ar Z h46 b46 1024 (fun _ => 0) := own_new0 1024 (by decide) A46
  have f54 := (((((((((((((hF_cachedElse.ext E2).other W5 (Or.inr (slot_ne (Or.inl (hw _ (own_w 33 rfl))) (Or.inl (hw _ (own_w 14 rfl))) (by decide) (t := (.array .int)) (t' := (.array .int)) (by decide) (by decide)))).ext E6).other W11 (Or.inr (slot_ne (Or.inl (hw _ (own_w 33 rfl))) (Or.inl (hw _ (own_w 16 rfl))) (by decide) (t := (.array .int)) (t' := (.array .int)) (by decide) (by decide)))).ext E12).other W18 (Or.inr (slot_ne (Or.inl (hw _ (own_w 33 rfl))) (Or.inl (hw _ (own_w 18 rfl))) (by decide) (t := (.array .int)) (t' := (.array .int)) (by decide) (by decide)))).keep K19 nin0).other W26 (Or.inr (slot_ne (Or.inl (hw _ (own_w 33 rfl))) (Or.inl (hw _ (own_w 27 rfl))) (by decide) (t := (.array .int)) (t' := (.array .int)) (by decide) (by decide)))).keep K27 nin0).other W35 (Or.inr (slot_ne (Or.inl (hw _ (own_w 33 rfl))) (Or.inl (hw _ (own_w 29 rfl))) (by decide) (t := (.array .int)) (t' := (.array .int)) (by decide) (by decide)))).ext E36).other W45 (Or.inr (slot_ne (Or.inl (hw _ (own_w 33 rfl))) (Or.inl (hw _ (own_w 31 rfl))) (by decide) (t := (.array .int)) (t' := (.array .int)) (by decide) (by decide)))).ext E46)
  have f55 := (f47.ext E46)
  obtain ⟨T56, h56, X56, e56, W56, st56⟩ := putF X46 hx hZ hown (host := "") (Or.inl (hw _ (own_w 32 rfl))) Via.refl e46 f54 f55 (Or.inl (hw _ (own_w 33 rfl))) (hw _ (own_w 4 rfl)) (ty := (.array .int)) (by decide) rfl rfl (g := (mkF m 66 #[rv a0] [(.ref b46), (.ref a0)])) rfl rfl (hb hby d1_66)
  have N56 := Fr.snoc X56 N45 hga
  have Z56 : n0 ≤ h56.size := Nat.le_trans Z46 (Nat.le_of_eq W56.size.symm)
  have K56 : Keep h0 h56 [a0] := K46.wr W56 (Or.inl (List.mem_of_getElem? (i := 0) rfl))
  have Fw56 := f54.same W56
  obtain ⟨T57, h57, k57, X57, e57, E57, A57, st57⟩ := newP X56 hx hZ (hw _ (own_w 12 rfl)) e56 (g := (mkF m 73 #[rv a0] [(.int 1024), (.ref a0)])) rfl (hb hby d1_73) rfl (by decide) (cap := 1024) (by decide) (by decide) (by decide) (by decide)
  obtain ⟨b57, g57⟩ : ∃ z, z = h56.size := ⟨_, rfl⟩
  rw [← g57] at A57 st57
  have f58 := (f55.wr W56)
  have ne_a0_b57 : a0 ≠ b57 := Nat.ne_of_lt (Nat.lt_of_lt_of_le f58.lt (Nat.le_of_eq g57.symm))
  have f59 := ((f48.ext E46).other W56 (Ne.symm ne_a0_b12))
  have ne_b12_b57 : b12 ≠ b57 := Nat.ne_of_lt (Nat.lt_of_lt_of_le f59.lt (Nat.le_of_eq g57.symm))
  have f60 := ((f49.ext E46).other W56 (Ne.symm ne_a0_b19))
  have ne_b19_b57 : b19 ≠ b57 := Nat.ne_of_lt (Nat.lt_of_lt_of_le f60.lt (Nat.le_of_eq g57.symm))
  have f61 := ((f50.ext E46).other W56 (Ne.symm ne_a0_b2))
  have ne_b2_b57 : b2 ≠ b57 := Nat.ne_of_lt (Nat.lt_of_lt_of_le f61.lt (Nat.le_of_eq g57.symm))
  have f62 := ((f51.ext E46).other W56 (Ne.symm ne_a0_b27))
  have ne_b27_b57 : b27 ≠ b57 := Nat.ne_of_lt (Nat.lt_of_lt_of_le f62.lt (Nat.le_of_eq g57.symm))
  have f63 := ((f52.ext E46).other W56 (Ne.symm ne_a0_b36))
  have ne_b36_b57 : b36 ≠ b57 := Nat.ne_of_lt (Nat.lt_of_lt_of_le f63.lt (Nat.le_of_eq g57.symm))
  have f64 := (V46.other W56 (Ne.symm ne_a0_b46))
  have ne_b46_b57 : b46 ≠ b57 := Nat.ne_of_lt (Nat.lt_of_lt_of_le f64.lt (Nat.le_of_eq g57.symm))
  have f65 := ((f53.ext E46).other W56 (Ne.symm ne_a0_b6))
  have ne_b6_b57 : b6 ≠ b57 := Nat.ne_of_lt (Nat.lt_of_lt_of_le f65.lt (Nat.le_of_eq g57.symm))
  have ge_b57 : n0 ≤ b57 := Nat.le_trans Z56 (Nat.le_of_eq g57.symm)
  have sz_b57 : h0.size ≤ b57 := Nat.le_trans K56.1 (Nat.le_of_eq g57.symm)
  have Z57 : n0 ≤ h57.size := Nat.le_trans Z56 E57.1
  have K57 : Keep h0 h57 [a0] := K56.ext E57
  have V57 : own_Ar Z h57 b57 1024 (fun _ => 0) := own_new0 1024 (by decide) A57
  have f66 := (((((((((((((((hF_cachedResult.ext E2).other W5 (Or.inr (slot_ne (Or.inl (hw _ (own_w 35 rfl))) (Or.inl (hw _ (own_w 14 rfl))) (by decide) (t := (.array .int)) (t' := (.array .int)) (by decide) (by decide)))).ext E6).other W11 (Or.inr (slot_ne (Or.inl (hw _ (own_w 35 rfl))) (Or.inl (hw _ (own_w 16 rfl))) (by decide) (t := (.array .int)) (t' := (.array .int)) (by decide) (by decide)))).ext E12).other W18 (Or.inr (slot_ne (Or.inl (hw _ (own_w 35 rfl))) (Or.inl (hw _ (own_w 18 rfl))) (by decide) (t := (.array .int)) (t' := (.array .int)) (by decide) (by decide)))).keep K19 nin0).other W26 (Or.inr (slot_ne (Or.inl (hw _ (own_w 35 rfl))) (Or.inl (hw _ (own_w 27 rfl))) (by decide) (t := (.array .int)) (t' := (.array .int)) (by decide) (by decide)))).keep K27 nin0).other W35 (Or.inr (slot_ne (Or.inl (hw _ (own_w 35 rfl))) (Or.inl (hw _ (own_w 29 rfl))) (by decide) (t := (.array .int)) (t' := (.array .int)) (by decide) (by decide)))).ext E36).other W45 (Or.inr (slot_ne (Or.inl (hw _ (own_w 35 rfl))) (Or.inl (hw _ (own_w 31 rfl))) (by decide) (t := (.array .int)) (t' := (.array .int)) (by decide) (by decide)))).ext E46).other W56 (Or.inr (slot_ne (Or.inl (hw _ (own_w 35 rfl))) (Or.inl (hw _ (own_w 33 rfl))) (by decide) (t := (.array .int)) (t' := (.array .int)) (by decide) (by decide)))).ext E57)
  have f67 := (f58.ext E57)
  obtain ⟨T68, h68, X68, e68, W68, st68⟩ := putF X57 hx hZ hown (host := "") (Or.inl (hw _ (own_w 34 rfl))) Via.refl e57 f66 f67 (Or.inl (hw _ (own_w 35 rfl))) (hw _ (own_w 4 rfl)) (ty := (.array .int)) (by decide) rfl rfl (g := (mkF m 75 #[rv a0] [(.ref b57), (.ref a0)])) rfl rfl (hb hby d1_75)
  have N68 := Fr.snoc X68 N56 hga
  have Z68 : n0 ≤ h68.size := Nat.le_trans Z57 (Nat.le_of_eq W68.size.symm)
  have K68 : Keep h0 h68 [a0] := K57.wr W68 (Or.inl (List.mem_of_getElem? (i := 0) rfl))
  have Fw68 := f66.same W68
  have f69 := ((((((((((((((Fw5.ext E6).other W11 (Or.inr (slot_ne (Or.inl (hw _ (own_w 14 rfl))) (Or.inl (hw _ (own_w 16 rfl))) (by decide) (t := (.array .int)) (t' := (.array .int)) (by decide) (by decide)))).ext E12).other W18 (Or.inr (slot_ne (Or.inl (hw _ (own_w 14 rfl))) (Or.inl (hw _ (own_w 18 rfl))) (by decide) (t := (.array .int)) (t' := (.array .int)) (by decide) (by decide)))).keep K19 nin0).other W26 (Or.inr (slot_ne (Or.inl (hw _ (own_w 14 rfl))) (Or.inl (hw _ (own_w 27 rfl))) (by decide) (t := (.array .int)) (t' := (.array .int)) (by decide) (by decide)))).keep K27 nin0).other W35 (Or.inr (slot_ne (Or.inl (hw _ (own_w 14 rfl))) (Or.inl (hw _ (own_w 29 rfl))) (by decide) (t := (.array .int)) (t' := (.array .int)) (by decide) (by decide)))).ext E36).other W45 (Or.inr (slot_ne (Or.inl (hw _ (own_w 14 rfl))) (Or.inl (hw _ (own_w 31 rfl))) (by decide) (t := (.array .int)) (t' := (.array .int)) (by decide) (by decide)))).ext E46).other W56 (Or.inr (slot_ne (Or.inl (hw _ (own_w 14 rfl))) (Or.inl (hw _ (own_w 33 rfl))) (by decide) (t := (.array .int)) (t' := (.array .int)) (by decide) (by decide)))).ext E57).other W68 (Or.inr (slot_ne (Or.inl (hw _ (own_w 14 rfl))) (Or.inl (hw _ (own_w 35 rfl))) (by decide) (t := (.array .int)) (t' := (.array .int)) (by decide) (by decide))))
  obtain ⟨T70, X70, e70, st70⟩ := getF X68 hx hZ hown (host := "") (Or.inl (hw _ (own_w 13 rfl))) Via.refl e68 f69 (g := (mkF m 79 #[rv a0] [(.ref a0)])) rfl rfl (hb hby d1_79)
  have f71 := ((f61.ext E57).other W68 (Ne.symm ne_a0_b2))
  obtain ⟨kc72, cl72, Ar72, qk72, Sz72, Ng72, Hs72, Gs72⟩ := id f71
  have hin72 : ¬ ((0 : Int32) < 0 ∨ cl72.slots.size ≤ ((0 : Int32)).toNatClampNeg) := own_inb (n := 1024) (k := 0) Sz72 (by decide) (by decide)
  obtain ⟨T73, h73, X73, e73, W73, st73⟩ := stI X70 hx hZ e70 Ar72 (j := (0 : Int32)) hin72 (g := (mkF m 85 #[rv a0] [(.int 2147483647), (.int 0), (.ref b2)])) rfl rfl (hb hby d1_85)
  have N73 := Fr.snoc X73 N68 ge_b2
  have Z73 : n0 ≤ h73.size := Nat.le_trans Z68 (Nat.le_of_eq W73.size.symm)
  have K73 : Keep h0 h73 [a0] := K68.wr W73 (Or.inr sz_b2)
  have V73 : own_Ar Z h73 b2 1024 (own_up (fun _ => 0) 0 (2147483647 : Int32)) := own_arset (g := (fun _ => 0)) (k := 0) Ar72 qk72 Sz72 Ng72 Hs72 Gs72 W73 (by decide) (by decide)
  have f74 := (f69.other W73 (Or.inl ne_a0_b2))
  obtain ⟨T75, X75, e75, st75⟩ := getF X73 hx hZ hown (host := "") (Or.inl (hw _ (own_w 13 rfl))) Via.refl e73 f74 (g := (mkF m 87 #[rv a0] [(.ref a0)])) rfl rfl (hb hby d1_87)
  obtain ⟨kc76, cl76, Ar76, qk76, Sz76, Ng76, Hs76, Gs76⟩ := id V73
  have hin76 : ¬ ((1 : Int32) < 0 ∨ cl76.slots.size ≤ ((1 : Int32)).toNatClampNeg) := own_inb (n := 1024) (k := 1) Sz76 (by decide) (by decide)
  obtain ⟨T77, h77, X77, e77, W77, st77⟩ := stI X75 hx hZ e75 Ar76 (j := (1 : Int32)) hin76 (g := (mkF m 93 #[rv a0] [(.int 2147483647), (.int 1), (.ref b2)])) rfl rfl (hb hby d1_93)
  have N77 := Fr.snoc X77 N73 ge_b2
  have Z77 : n0 ≤ h77.size := Nat.le_trans Z73 (Nat.le_of_eq W77.size.symm)
  have K77 : Keep h0 h77 [a0] := K73.wr W77 (Or.inr sz_b2)
  have V77 : own_Ar Z h77 b2 1024 (own_up (own_up (fun _ => 0) 0 (2147483647 : Int32)) 1 (2147483647 : Int32)) := own_arset (g := (own_up (fun _ => 0) 0 (2147483647 : Int32))) (k := 1) Ar76 qk76 Sz76 Ng76 Hs76 Gs76 W77 (by decide) (by decide)
  have f78 := ((((((((((((((((((hF_size.ext E2).other W5 (Or.inr (slot_ne (Or.inl (hw _ (own_w 38 rfl))) (Or.inl (hw _ (own_w 14 rfl))) (by decide) (t := .int) (t' := (.array .int)) (by decide) (by decide)))).ext E6).other W11 (Or.inr (slot_ne (Or.inl (hw _ (own_w 38 rfl))) (Or.inl (hw _ (own_w 16 rfl))) (by decide) (t := .int) (t' := (.array .int)) (by decide) (by decide)))).ext E12).other W18 (Or.inr (slot_ne (Or.inl (hw _ (own_w 38 rfl))) (Or.inl (hw _ (own_w 18 rfl))) (by decide) (t := .int) (t' := (.array .int)) (by decide) (by decide)))).keep K19 nin0).other W26 (Or.inr (slot_ne (Or.inl (hw _ (own_w 38 rfl))) (Or.inl (hw _ (own_w 27 rfl))) (by decide) (t := .int) (t' := (.array .int)) (by decide) (by decide)))).keep K27 nin0).other W35 (Or.inr (slot_ne (Or.inl (hw _ (own_w 38 rfl))) (Or.inl (hw _ (own_w 29 rfl))) (by decide) (t := .int) (t' := (.array .int)) (by decide) (by decide)))).ext E36).other W45 (Or.inr (slot_ne (Or.inl (hw _ (own_w 38 rfl))) (Or.inl (hw _ (own_w 31 rfl))) (by decide) (t := .int) (t' := (.array .int)) (by decide) (by decide)))).ext E46).other W56 (Or.inr (slot_ne (Or.inl (hw _ (own_w 38 rfl))) (Or.inl (hw _ (own_w 33 rfl))) (by decide) (t := .int) (t' := (.array .int)) (by decide) (by decide)))).ext E57).other W68 (Or.inr (slot_ne (Or.inl (hw _ (own_w 38 rfl))) (Or.inl (hw _ (own_w 35 rfl))) (by decide) (t := .int) (t' := (.array .int)) (by decide) (by decide)))).other W73 (Or.inl ne_a0_b2)).other W77 (Or.inl ne_a0_b2))
  have f79 := (((f67.wr W68).wr W73).wr W77)
  obtain ⟨T80, h80, X80, e80, W80, st80⟩ := putF X77 hx hZ hown (host := "") (Or.inl (hw _ (own_w 37 rfl))) Via.refl e77 f78 f79 (Or.inl (hw _ (own_w 38 rfl))) (hw _ (own_w 4 rfl)) (ty := .int) (by decide) rfl rfl (g := (mkF m 96 #[rv a0] [(.int 2), (.ref a0)])) rfl rfl (hb hby d1_96)
  have N80 := Fr.snoc X80 N77 hga
  have Z80 : n0 ≤ h80.size := Nat.le_trans Z77 (Nat.le_of_eq W80.size.symm)
  have K80 : Keep h0 h80 [a0] := K77.wr W80 (Or.inl (List.mem_of_getElem? (i := 0) rfl))
  have Fw80 := f78.same W80
  have S81 : ∀ tz, oS p e below T80 (mkF m 99 #[rv a0] []) tz → oS p e below s₁ (mkF m 0 #[rv a0] []) tz := fun tz kz => id (by
    show oS p e below s₁ (mkF m 0 #[rv a0] []) _
    refine XS.aloadN X0.here hx rfl (hb hby d1_0) rfl rfl ?_
    refine st1 _ ?_
    refine XS.aloadN X1.here hx rfl (hb hby d1_4) rfl rfl ?_
    refine XT.sipushV X1.here hx rfl (1024 : Int32) (hb hby d1_5) (by decide) ?_
    refine st2 _ ?_
    refine st5 _ ?_
    refine XS.aloadN X5.here hx rfl (hb hby d1_13) rfl rfl ?_
    refine XT.sipushV X5.here hx rfl (1024 : Int32) (hb hby d1_14) (by decide) ?_
    refine st6 _ ?_
    refine st11 _ ?_
    show oS p e below T11 (mkF m 22 #[rv a0] []) _
    refine XS.aloadN X11.here hx rfl (hb hby d1_22) rfl rfl ?_
    refine XT.sipushV X11.here hx rfl (1024 : Int32) (hb hby d1_23) (by decide) ?_
    refine st12 _ ?_
    refine st18 _ ?_
    refine XS.aloadN X18.here hx rfl (hb hby d1_31) rfl rfl ?_
    refine XT.sipushV X18.here hx rfl (2048 : Int32) (hb hby d1_32) (by decide) ?_
    refine st19 _ ?_
    refine st26 _ ?_
    refine XS.aloadN X26.here hx rfl (hb hby d1_41) rfl rfl ?_
    refine XT.sipushV X26.here hx rfl (1024 : Int32) (hb hby d1_42) (by decide) ?_
    show oS p e below T26 (mkF m 45 #[rv a0] [(.int 1024), (.ref a0)]) _
    refine st27 _ ?_
    refine st35 _ ?_
    refine XS.aloadN X35.here hx rfl (hb hby d1_51) rfl rfl ?_
    refine XT.sipushV X35.here hx rfl (1024 : Int32) (hb hby d1_52) (by decide) ?_
    refine st36 _ ?_
    refine st45 _ ?_
    refine XS.aloadN X45.here hx rfl (hb hby d1_60) rfl rfl ?_
    refine XT.sipushV X45.here hx rfl (1024 : Int32) (hb hby d1_61) (by decide) ?_
    refine st46 _ ?_
    refine st56 _ ?_
    show oS p e below T56 (mkF m 69 #[rv a0] []) _
    refine XS.aloadN X56.here hx rfl (hb hby d1_69) rfl rfl ?_
    refine XT.sipushV X56.here hx rfl (1024 : Int32) (hb hby d1_70) (by decide) ?_
    refine st57 _ ?_
    refine st68 _ ?_
    refine XS.aloadN X68.here hx rfl (hb hby d1_78) rfl rfl ?_
    refine st70 _ ?_
    refine XT.iconstV X70.here hx rfl (0 : Int32) (hb hby d1_82) (by decide) ?_
    refine X70.ldcI hx hown (mvT hZ (hw _ (own_w 36 rfl))) rfl (hb hby d1_83) ?_
    refine st73 _ ?_
    refine XS.aloadN X73.here hx rfl (hb hby d1_86) rfl rfl ?_
    show oS p e below T73 (mkF m 87 #[rv a0] [(.ref a0)]) _
    refine st75 _ ?_
    refine XT.iconstV X75.here hx rfl (1 : Int32) (hb hby d1_90) (by decide) ?_
    refine X75.ldcI hx hown (mvT hZ (hw _ (own_w 36 rfl))) rfl (hb hby d1_91) ?_
    refine st77 _ ?_
    refine XS.aloadN X77.here hx rfl (hb hby d1_94) rfl rfl ?_
    refine XT.iconstV X77.here hx rfl (2 : Int32) (hb hby d1_95) (by decide) ?_
    refine st80 _ ?_
    exact kz)
  obtain ⟨fs, hr, hrun, hended, hW, hsame⟩ := X80.leave (v := none) (fun _ => rfl)
  refine ⟨_, _, pre0 _ (S81 _ ?_), hrun, hended, _, _, rfl, ?_, ⟨_, rfl⟩, hW, hsame.mono (by decide) (by decide)⟩
  · exact X80.returnOut hx Bd.returns (hb hby d1_99) hr
  have f82 := (f79.wr W80)
  have f83 := ((f74.other W77 (Or.inl ne_a0_b2)).other W80 (Or.inr (slot_ne (Or.inl (hw _ (own_w 14 rfl))) (Or.inl (hw _ (own_w 38 rfl))) (by decide) (t := (.array .int)) (t' := .int) (by decide) (by decide))))
  have f84 := (((((((((((((((Fw11.ext E12).other W18 (Or.inr (slot_ne (Or.inl (hw _ (own_w 16 rfl))) (Or.inl (hw _ (own_w 18 rfl))) (by decide) (t := (.array .int)) (t' := (.array .int)) (by decide) (by decide)))).keep K19 nin0).other W26 (Or.inr (slot_ne (Or.inl (hw _ (own_w 16 rfl))) (Or.inl (hw _ (own_w 27 rfl))) (by decide) (t := (.array .int)) (t' := (.array .int)) (by decide) (by decide)))).keep K27 nin0).other W35 (Or.inr (slot_ne (Or.inl (hw _ (own_w 16 rfl))) (Or.inl (hw _ (own_w 29 rfl))) (by decide) (t := (.array .int)) (t' := (.array .int)) (by decide) (by decide)))).ext E36).other W45 (Or.inr (slot_ne (Or.inl (hw _ (own_w 16 rfl))) (Or.inl (hw _ (own_w 31 rfl))) (by decide) (t := (.array .int)) (t' := (.array .int)) (by decide) (by decide)))).ext E46).other W56 (Or.inr (slot_ne (Or.inl (hw _ (own_w 16 rfl))) (Or.inl (hw _ (own_w 33 rfl))) (by decide) (t := (.array .int)) (t' := (.array .int)) (by decide) (by decide)))).ext E57).other W68 (Or.inr (slot_ne (Or.inl (hw _ (own_w 16 rfl))) (Or.inl (hw _ (own_w 35 rfl))) (by decide) (t := (.array .int)) (t' := (.array .int)) (by decide) (by decide)))).other W73 (Or.inl ne_a0_b2)).other W77 (Or.inl ne_a0_b2)).other W80 (Or.inr (slot_ne (Or.inl (hw _ (own_w 16 rfl))) (Or.inl (hw _ (own_w 38 rfl))) (by decide) (t := (.array .int)) (t' := .int) (by decide) (by decide))))
  have f85 := (((((((((((((Fw18.keep K19 nin0).other W26 (Or.inr (slot_ne (Or.inl (hw _ (own_w 18 rfl))) (Or.inl (hw _ (own_w 27 rfl))) (by decide) (t := (.array .int)) (t' := (.array .int)) (by decide) (by decide)))).keep K27 nin0).other W35 (Or.inr (slot_ne (Or.inl (hw _ (own_w 18 rfl))) (Or.inl (hw _ (own_w 29 rfl))) (by decide) (t := (.array .int)) (t' := (.array .int)) (by decide) (by decide)))).ext E36).other W45 (Or.inr (slot_ne (Or.inl (hw _ (own_w 18 rfl))) (Or.inl (hw _ (own_w 31 rfl))) (by decide) (t := (.array .int)) (t' := (.array .int)) (by decide) (by decide)))).ext E46).other W56 (Or.inr (slot_ne (Or.inl (hw _ (own_w 18 rfl))) (Or.inl (hw _ (own_w 33 rfl))) (by decide) (t := (.array .int)) (t' := (.array .int)) (by decide) (by decide)))).ext E57).other W68 (Or.inr (slot_ne (Or.inl (hw _ (own_w 18 rfl))) (Or.inl (hw _ (own_w 35 rfl))) (by decide) (t := (.array .int)) (t' := (.array .int)) (by decide) (by decide)))).other W73 (Or.inl ne_a0_b2)).other W77 (Or.inl ne_a0_b2)).other W80 (Or.inr (slot_ne (Or.inl (hw _ (own_w 18 rfl))) (Or.inl (hw _ (own_w 38 rfl))) (by decide) (t := (.array .int)) (t' := .int) (by decide) (by decide))))
  have f86 := (((((((((((Fw26.keep K27 nin0).other W35 (Or.inr (slot_ne (Or.inl (hw _ (own_w 27 rfl))) (Or.inl (hw _ (own_w 29 rfl))) (by decide) (t := (.array .int)) (t' := (.array .int)) (by decide) (by decide)))).ext E36).other W45 (Or.inr (slot_ne (Or.inl (hw _ (own_w 27 rfl))) (Or.inl (hw _ (own_w 31 rfl))) (by decide) (t := (.array .int)) (t' := (.array .int)) (by decide) (by decide)))).ext E46).other W56 (Or.inr (slot_ne (Or.inl (hw _ (own_w 27 rfl))) (Or.inl (hw _ (own_w 33 rfl))) (by decide) (t := (.array .int)) (t' := (.array .int)) (by decide) (by decide)))).ext E57).other W68 (Or.inr (slot_ne (Or.inl (hw _ (own_w 27 rfl))) (Or.inl (hw _ (own_w 35 rfl))) (by decide) (t := (.array .int)) (t' := (.array .int)) (by decide) (by decide)))).other W73 (Or.inl ne_a0_b2)).other W77 (Or.inl ne_a0_b2)).other W80 (Or.inr (slot_ne (Or.inl (hw _ (own_w 27 rfl))) (Or.inl (hw _ (own_w 38 rfl))) (by decide) (t := (.array .int)) (t' := .int) (by decide) (by decide))))
  have f87 := (((((((((Fw35.ext E36).other W45 (Or.inr (slot_ne (Or.inl (hw _ (own_w 29 rfl))) (Or.inl (hw _ (own_w 31 rfl))) (by decide) (t := (.array .int)) (t' := (.array .int)) (by decide) (by decide)))).ext E46).other W56 (Or.inr (slot_ne (Or.inl (hw _ (own_w 29 rfl))) (Or.inl (hw _ (own_w 33 rfl))) (by decide) (t := (.array .int)) (t' := (.array .int)) (by decide) (by decide)))).ext E57).other W68 (Or.inr (slot_ne (Or.inl (hw _ (own_w 29 rfl))) (Or.inl (hw _ (own_w 35 rfl))) (by decide) (t := (.array .int)) (t' := (.array .int)) (by decide) (by decide)))).other W73 (Or.inl ne_a0_b2)).other W77 (Or.inl ne_a0_b2)).other W80 (Or.inr (slot_ne (Or.inl (hw _ (own_w 29 rfl))) (Or.inl (hw _ (own_w 38 rfl))) (by decide) (t := (.array .int)) (t' := .int) (by decide) (by decide))))
  have f88 := (((((((Fw45.ext E46).other W56 (Or.inr (slot_ne (Or.inl (hw _ (own_w 31 rfl))) (Or.inl (hw _ (own_w 33 rfl))) (by decide) (t := (.array .int)) (t' := (.array .int)) (by decide) (by decide)))).ext E57).other W68 (Or.inr (slot_ne (Or.inl (hw _ (own_w 31 rfl))) (Or.inl (hw _ (own_w 35 rfl))) (by decide) (t := (.array .int)) (t' := (.array .int)) (by decide) (by decide)))).other W73 (Or.inl ne_a0_b2)).other W77 (Or.inl ne_a0_b2)).other W80 (Or.inr (slot_ne (Or.inl (hw _ (own_w 31 rfl))) (Or.inl (hw _ (own_w 38 rfl))) (by decide) (t := (.array .int)) (t' := .int) (by decide) (by decide))))
  have f89 := (((((Fw56.ext E57).other W68 (Or.inr (slot_ne (Or.inl (hw _ (own_w 33 rfl))) (Or.inl (hw _ (own_w 35 rfl))) (by decide) (t := (.array .int)) (t' := (.array .int)) (by decide) (by decide)))).other W73 (Or.inl ne_a0_b2)).other W77 (Or.inl ne_a0_b2)).other W80 (Or.inr (slot_ne (Or.inl (hw _ (own_w 33 rfl))) (Or.inl (hw _ (own_w 38 rfl))) (by decide) (t := (.array .int)) (t' := .int) (by decide) (by decide))))
  have f90 := (((Fw68.other W73 (Or.inl ne_a0_b2)).other W77 (Or.inl ne_a0_b2)).other W80 (Or.inr (slot_ne (Or.inl (hw _ (own_w 35 rfl))) (Or.inl (hw _ (own_w 38 rfl))) (by decide) (t := (.array .int)) (t' := .int) (by decide) (by decide))))
  have f91 := (V77.other W80 (Ne.symm ne_a0_b2))
  have f92 := (((((f65.ext E57).other W68 (Ne.symm ne_a0_b6)).other W73 (Ne.symm ne_b2_b6)).other W77 (Ne.symm ne_b2_b6)).other W80 (Ne.symm ne_a0_b6))
  have f93 := (((((f59.ext E57).other W68 (Ne.symm ne_a0_b12)).other W73 (Ne.symm ne_b2_b12)).other W77 (Ne.symm ne_b2_b12)).other W80 (Ne.symm ne_a0_b12))
  have f94 := (((((f60.ext E57).other W68 (Ne.symm ne_a0_b19)).other W73 (Ne.symm ne_b2_b19)).other W77 (Ne.symm ne_b2_b19)).other W80 (Ne.symm ne_a0_b19))
  have f95 := (((((f62.ext E57).other W68 (Ne.symm ne_a0_b27)).other W73 (Ne.symm ne_b2_b27)).other W77 (Ne.symm ne_b2_b27)).other W80 (Ne.symm ne_a0_b27))
  have f96 := (((((f63.ext E57).other W68 (Ne.symm ne_a0_b36)).other W73 (Ne.symm ne_b2_b36)).other W77 (Ne.symm ne_b2_b36)).other W80 (Ne.symm ne_a0_b36))
  have f97 := (((((f64.ext E57).other W68 (Ne.symm ne_a0_b46)).other W73 (Ne.symm ne_b2_b46)).other W77 (Ne.symm ne_b2_b46)).other W80 (Ne.symm ne_a0_b46))
  have f98 := ((((V57.other W68 (Ne.symm ne_a0_b57)).other W73 (Ne.symm ne_b2_b57)).other W77 (Ne.symm ne_b2_b57)).other W80 (Ne.symm ne_a0_b57))
  · show QrmInit Z a0 h0 n0 _ T80.heap _
    rw [e80]
    exact ⟨b2, b6, b12, b19, b27, b36, b46, b57, rfl, N80, K80, (allS sz_b2 (allS sz_b6 (allS sz_b12 (allS sz_b19 (allS sz_b27 (allS sz_b36 (allS sz_b46 (allS sz_b57 all0)))))))), ((((((((((own_Sep.nil n0).cons all0 ge_b57).cons (allS ne_b46_b57 all0) ge_b46).cons (allS ne_b36_b46 (allS ne_b36_b57 all0)) ge_b36).cons (allS ne_b27_b36 (allS ne_b27_b46 (allS ne_b27_b57 all0))) ge_b27).cons (allS ne_b19_b27 (allS ne_b19_b36 (allS ne_b19_b46 (allS ne_b19_b57 all0)))) ge_b19).cons (allS ne_b12_b19 (allS ne_b12_b27 (allS ne_b12_b36 (allS ne_b12_b46 (allS ne_b12_b57 all0))))) ge_b12).cons (allS ne_b6_b12 (allS ne_b6_b19 (allS ne_b6_b27 (allS ne_b6_b36 (allS ne_b6_b46 (allS ne_b6_b57 all0)))))) ge_b6).cons (allS ne_b2_b6 (allS ne_b2_b12 (allS ne_b2_b19 (allS ne_b2_b27 (allS ne_b2_b36 (allS ne_b2_b46 (allS ne_b2_b57 all0))))))) ge_b2).cons (allS ne_a0_b2 (allS ne_a0_b6 (allS ne_a0_b12 (allS ne_a0_b19 (allS ne_a0_b27 (allS ne_a0_b36 (allS ne_a0_b46 (allS ne_a0_b57 all0)))))))) hga), own_Dia.mk f82 f83 f84 f85 f86 f87 f88 f89 f90 Fw80 f91 f92 f93 f94 f95 f96 f97 f98⟩
def own_h1 (x y : Int32) : Int32 := x * (-1640531535 : Int32) + y
def own_h2 (x y z : Int32) : Int32 := (own_h1 x y) * (-2048144777 : Int32) + z
def own_mix (x y z : Int32) : Int32 := (own_h2 x y z) ^^^ (XT.ushr (own_h2 x y z) 15)
def own_cs (x y z : Int32) : Nat := ((own_mix x y z) &&& 1023).toInt.toNat
def own_us (x y z : Int32) : Nat := ((own_mix x y z) &&& 2047).toInt.toNat
theorem own_csl (x y z : Int32) : own_cs x y z < 1024 := by
  have := c_mask (own_mix x y z) 1023 10 (by decide) (by decide); unfold own_cs; omega
theorem own_usl (x y z : Int32) : own_us x y z < 2048 := by
  have := c_mask (own_mix x y z) 2047 11 (by decide) (by decide); unfold own_us; omega
theorem own_cse (x y z : Int32) : (own_mix x y z) &&& 1023 = own_n (own_cs x y z) := by
  have h := c_mask (own_mix x y z) 1023 10 (by decide) (by decide)
  have h2 := own_csl x y z
  rw [← Int32.toInt_inj, own_nI (by omega)]; unfold own_cs; omega
theorem own_use (x y z : Int32) : (own_mix x y z) &&& 2047 = own_n (own_us x y z) := by
  have h := c_mask (own_mix x y z) 2047 11 (by decide) (by decide)
  have h2 := own_usl x y z
  rw [← Int32.toInt_inj, own_nI (by omega)]; unfold own_us; omega
theorem own_wrap {k : Nat} (h : k < 2048) : (own_n k + 1) &&& 2047 = own_n ((k + 1) % 2048) := by
  rw [own_nadd (by omega), ← Int32.toInt_inj, c_mask _ 2047 11 (by decide) (by decide), own_nI (by omega), own_nI (by omega)]; omega
def own_min (x y : Int32) : Int32 := if y < x then y else x
theorem d7_0 : decode prog_72_method_13_code 0 = .ok (.iload_n 0, 1) := by decide +kernel
theorem d7_1 : decode prog_72_method_13_code 1 = .ok (.ldc 125, 2) := by decide +kernel
theorem d7_3 : decode prog_72_method_13_code 3 = .ok (.imul, 1) := by decide +kernel
theorem d7_4 : decode prog_72_method_13_code 4 = .ok (.iload_n 1, 1) := by decide +kernel
theorem d7_5 : decode prog_72_method_13_code 5 = .ok (.iadd, 1) := by decide +kernel
theorem d7_6 : decode prog_72_method_13_code 6 = .ok (.istore_n 3, 1) := by decide +kernel
theorem d7_7 : decode prog_72_method_13_code 7 = .ok (.iload_n 3, 1) := by decide +kernel
theorem d7_8 : decode prog_72_method_13_code 8 = .ok (.ldc 126, 2) := by decide +kernel
theorem d7_10 : decode prog_72_method_13_code 10 = .ok (.imul, 1) := by decide +kernel
theorem d7_11 : decode prog_72_method_13_code 11 = .ok (.iload_n 2, 1) := by decide +kernel
theorem d7_12 : decode prog_72_method_13_code 12 = .ok (.iadd, 1) := by decide +kernel
theorem d7_13 : decode prog_72_method_13_code 13 = .ok (.istore_n 3, 1) := by decide +kernel
theorem d7_14 : decode prog_72_method_13_code 14 = .ok (.iload_n 3, 1) := by decide +kernel
theorem d7_15 : decode prog_72_method_13_code 15 = .ok (.iload_n 3, 1) := by decide +kernel
theorem d7_16 : decode prog_72_method_13_code 16 = .ok (.bipush 15, 2) := by decide +kernel
theorem d7_18 : decode prog_72_method_13_code 18 = .ok (.iushr, 1) := by decide +kernel
theorem d7_19 : decode prog_72_method_13_code 19 = .ok (.ixor, 1) := by decide +kernel
theorem d7_20 : decode prog_72_method_13_code 20 = .ok (.ireturn, 1) := by decide +kernel
def QrmMix (Z : State) (y0 : Int32) (y1 : Int32) (y2 : Int32) (h0 : Heap) (n0 : Nat) (v : Option Value) (h : Heap) (L : List Loc) : Prop := v = some (.int (own_mix y0 y1 y2)) ∧ Fr n0 L ∧ h = h0
set_option maxRecDepth 65536 in
set_option maxHeartbeats 40000000 in
theorem rmMix (l : Launch) (Z : State) (av0 : Array Value) (hw : ∀ d ∈ tables_1, d.before av0 Z = true) (ws : List Jvm.Cond) (y0 : Int32) (y1 : Int32) (y2 : Int32) (h0 : Heap) (n0 : Nat) (Z0 : n0 ≤ h0.size)  :
    own_Met l mN3 prog_72_method_13_code 4 (some .int) ws ({ frames := 0, cells := 0, slots := 0, locals := 0 } : Room) #[(.int y0), (.int y1), (.int y2)] Z h0 (QrmMix Z y0 y1 y2 h0 n0) := by
  refine MetFree.of_bodySF (plainFor_of_name pn_DecisionDiagram) hisR ?_
  intro p e s m args below meth c s₁ Bd hml0 hP hK
  obtain ⟨rfl, hZ, hh⟩ := hP
  have hml : c.maxLocals = 4 := hml0
  obtain ⟨hx, hby, hown, hnm, X0, e0⟩ := own_start Bd hml0 hh
  have N0 := Fr.nil n0
  have pre0 : ∀ tz, oS p e below s₁ (mkF m 0 #[iv y0, iv y1, iv y2, .unset] []) tz → Steps p.tables e below (s₁.setTop (entryFrame m #[(.int y0), (.int y1), (.int y2)] 4)) tz := fun tz kz => castTop (by first | (simp [entryFrame, mkF, argsToLocals, Value.category]; done) | rfl) kz
  have S1 : ∀ tz, oS p e below s₁ (mkF m 20 #[iv y0, iv y1, iv y2, iv (((((y0 * (-1640531535 : Int32)) + y1) * (-2048144777 : Int32)) + y2))] [(.int (((((y0 * (-1640531535 : Int32)) + y1) * (-2048144777 : Int32)) + y2) ^^^ (XT.ushr ((((y0 * (-1640531535 : Int32)) + y1) * (-2048144777 : Int32)) + y2) (15 : Int32))))]) tz → oS p e below s₁ (mkF m 0 #[iv y0, iv y1, iv y2, .unset] []) tz := fun tz kz => id (by
    show oS p e below s₁ (mkF m 0 #[iv y0, iv y1, iv y2, .unset] []) _
    refine XS.iloadN X0.here hx rfl (hb hby d7_0) rfl ?_
    refine X0.ldcI hx hown (mvT hZ (hw _ (own_w 51 rfl))) rfl (hb hby d7_1) ?_
    refine XS.imul X0.here hx rfl (hb hby d7_3) rfl ?_
    refine XS.iloadN X0.here hx rfl (hb hby d7_4) rfl ?_
    refine XS.iadd X0.here hx rfl (hb hby d7_5) rfl ?_
    refine XS.istoreN X0.here hx rfl (hb hby d7_6) rfl (l' := #[iv y0, iv y1, iv y2, iv (((y0 * (-1640531535 : Int32)) + y1))]) rfl ?_
    refine XS.iloadN X0.here hx rfl (hb hby d7_7) rfl ?_
    refine X0.ldcI hx hown (mvT hZ (hw _ (own_w 52 rfl))) rfl (hb hby d7_8) ?_
    refine XS.imul X0.here hx rfl (hb hby d7_10) rfl ?_
    refine XS.iloadN X0.here hx rfl (hb hby d7_11) rfl ?_
    show oS p e below s₁ (mkF m 12 #[iv y0, iv y1, iv y2, iv (((y0 * (-1640531535 : Int32)) + y1))] [(.int y2), (.int (((y0 * (-1640531535 : Int32)) + y1) * (-2048144777 : Int32)))]) _
    refine XS.iadd X0.here hx rfl (hb hby d7_12) rfl ?_
    refine XS.istoreN X0.here hx rfl (hb hby d7_13) rfl (l' := #[iv y0, iv y1, iv y2, iv (((((y0 * (-1640531535 : Int32)) + y1) * (-2048144777 : Int32)) + y2))]) rfl ?_
    refine XS.iloadN X0.here hx rfl (hb hby d7_14) rfl ?_
    refine XS.iloadN X0.here hx rfl (hb hby d7_15) rfl ?_
    refine XT.bipushV X0.here hx rfl (15 : Int32) (hb hby d7_16) (by decide) ?_
    refine XT.iushr X0.here hx rfl (hb hby d7_18) rfl ?_
    refine XT.ixor X0.here hx rfl (hb hby d7_19) rfl ?_
    exact kz)
  obtain ⟨fs, hr, hrun, hended, hW, hsame⟩ := X0.leave (v := some (.int (((((y0 * (-1640531535 : Int32)) + y1) * (-2048144777 : Int32)) + y2) ^^^ (XT.ushr ((((y0 * (-1640531535 : Int32)) + y1) * (-2048144777 : Int32)) + y2) (15 : Int32))))) (fun h => by rw [Bd.returns] at h; cases h)
  refine ⟨_, _, pre0 _ (S1 _ ?_), hrun, hended, _, _, rfl, ?_, ⟨_, rfl⟩, hW, hsame.mono (by decide) (by decide)⟩
  · exact retI X0 hx Bd.returns (hb hby d7_20) hr
  · show QrmMix Z y0 y1 y2 h0 n0 _ s₁.heap _
    rw [e0]
    exact ⟨rfl, N0, rfl⟩
theorem own_pig : ∀ (m : Nat) (S : List Nat), S.length ≤ m → ∃ k, k ≤ m ∧ k ∉ S := by
  intro m
  induction m with
  | zero => intro S h; exact ⟨0, Nat.le_refl _, by rw [List.eq_nil_of_length_eq_zero (Nat.le_zero.mp h)]; exact fun q => nomatch q⟩
  | succ m ih =>
    intro S h
    by_cases q : m + 1 ∈ S
    · obtain ⟨k, h1, h2⟩ := ih (S.erase (m + 1)) (by rw [List.length_erase_of_mem q]; omega)
      exact ⟨k, by omega, fun z => h2 ((List.mem_erase_of_ne (by omega)).mpr z)⟩
    · exact ⟨m + 1, Nat.le_refl _, q⟩
def own_UI (uq : Nat → Int32) (sz : Nat) : Prop := (∀ k, k < 2048 → uq k = -1 ∨ ∃ n, 2 ≤ n ∧ n < sz ∧ uq k = own_n n) ∧ ∃ S : List Nat, S.length + 2 ≤ sz ∧ ∀ k, k < 2048 → ¬ uq k = -1 → k ∈ S
theorem own_UI0 : own_UI (fun _ => -1) 2 := ⟨fun _ _ => Or.inl rfl, [], by decide, fun _ _ h => absurd rfl h⟩
theorem own_UI.free {uq : Nat → Int32} {sz : Nat} (h : own_UI uq sz) (hs : sz < 1000) : ∃ k, k < 2048 ∧ uq k = -1 := by
  obtain ⟨-, S, h1, h2⟩ := h
  obtain ⟨k, h3, h4⟩ := own_pig S.length S (Nat.le_refl _)
  refine ⟨k, by omega, ?_⟩
  by_cases q : uq k = -1
  · exact q
  · exact absurd (h2 k (by omega) q) h4
theorem own_UI.step {uq : Nat → Int32} {sz k : Nat} (h : own_UI uq sz) (h2 : 2 ≤ sz) : own_UI (own_up uq k (own_n sz)) (sz + 1) := by
  obtain ⟨h1, S, h3, h4⟩ := h
  refine ⟨fun i hi => ?_, k :: S, by simp; omega, fun i hi hne => ?_⟩
  · unfold own_up
    by_cases q : i = k
    · rw [if_pos q]; exact Or.inr ⟨sz, h2, by omega, rfl⟩
    · rw [if_neg q]
      rcases h1 i hi with z | ⟨n, z1, z2, z3⟩
      · exact Or.inl z
      · exact Or.inr ⟨n, z1, by omega, z3⟩
  · unfold own_up at hne
    by_cases q : i = k
    · rw [q]; exact List.mem_cons_self
    · rw [if_neg q] at hne; exact List.mem_cons_of_mem _ (h4 i hi hne)
def own_I1 (z : Slot) : Prop := z = .unset ∨ ∃ y : Int32, z = .val (.int y)
def own_D2 (z w : Slot) : Prop := (z = .unset ∧ w = .unset) ∨ ∃ y : UInt64, z = .val (.double y) ∧ w = .second
theorem d6_43 : decode prog_72_method_10_code 43 = .ok (.aload_n 0, 1) := by decide +kernel
theorem d6_44 : decode prog_72_method_10_code 44 = .ok (.getfield 25, 3) := by decide +kernel
theorem d6_47 : decode prog_72_method_10_code 47 = .ok (.iload 5, 2) := by decide +kernel
theorem d6_49 : decode prog_72_method_10_code 49 = .ok (.iaload, 1) := by decide +kernel
theorem d6_50 : decode prog_72_method_10_code 50 = .ok (.iconst (-1), 1) := by decide +kernel
theorem d6_51 : decode prog_72_method_10_code 51 = .ok (.if_icmp .eq 60, 3) := by decide +kernel
theorem d6_54 : decode prog_72_method_10_code 54 = .ok (.aload_n 0, 1) := by decide +kernel
theorem d6_55 : decode prog_72_method_10_code 55 = .ok (.getfield 25, 3) := by decide +kernel
theorem d6_58 : decode prog_72_method_10_code 58 = .ok (.iload 5, 2) := by decide +kernel
theorem d6_60 : decode prog_72_method_10_code 60 = .ok (.iaload, 1) := by decide +kernel
theorem d6_61 : decode prog_72_method_10_code 61 = .ok (.istore 6, 2) := by decide +kernel
theorem d6_63 : decode prog_72_method_10_code 63 = .ok (.aload_n 0, 1) := by decide +kernel
theorem d6_64 : decode prog_72_method_10_code 64 = .ok (.getfield 11, 3) := by decide +kernel
theorem d6_67 : decode prog_72_method_10_code 67 = .ok (.iload 6, 2) := by decide +kernel
theorem d6_69 : decode prog_72_method_10_code 69 = .ok (.iaload, 1) := by decide +kernel
theorem d6_70 : decode prog_72_method_10_code 70 = .ok (.iload_n 1, 1) := by decide +kernel
theorem d6_71 : decode prog_72_method_10_code 71 = .ok (.if_icmp .ne 28, 3) := by decide +kernel
theorem d6_74 : decode prog_72_method_10_code 74 = .ok (.aload_n 0, 1) := by decide +kernel
theorem d6_75 : decode prog_72_method_10_code 75 = .ok (.getfield 15, 3) := by decide +kernel
theorem d6_78 : decode prog_72_method_10_code 78 = .ok (.iload 6, 2) := by decide +kernel
theorem d6_80 : decode prog_72_method_10_code 80 = .ok (.iaload, 1) := by decide +kernel
theorem d6_81 : decode prog_72_method_10_code 81 = .ok (.iload_n 2, 1) := by decide +kernel
theorem d6_82 : decode prog_72_method_10_code 82 = .ok (.if_icmp .ne 17, 3) := by decide +kernel
theorem d6_85 : decode prog_72_method_10_code 85 = .ok (.aload_n 0, 1) := by decide +kernel
theorem d6_86 : decode prog_72_method_10_code 86 = .ok (.getfield 18, 3) := by decide +kernel
theorem d6_89 : decode prog_72_method_10_code 89 = .ok (.iload 6, 2) := by decide +kernel
theorem d6_91 : decode prog_72_method_10_code 91 = .ok (.iaload, 1) := by decide +kernel
theorem d6_92 : decode prog_72_method_10_code 92 = .ok (.iload_n 3, 1) := by decide +kernel
theorem d6_93 : decode prog_72_method_10_code 93 = .ok (.if_icmp .ne 6, 3) := by decide +kernel
theorem d6_99 : decode prog_72_method_10_code 99 = .ok (.iload 5, 2) := by decide +kernel
theorem d6_101 : decode prog_72_method_10_code 101 = .ok (.iconst 1, 1) := by decide +kernel
theorem d6_102 : decode prog_72_method_10_code 102 = .ok (.iadd, 1) := by decide +kernel
theorem d6_103 : decode prog_72_method_10_code 103 = .ok (.iload 4, 2) := by decide +kernel
theorem d6_105 : decode prog_72_method_10_code 105 = .ok (.iand, 1) := by decide +kernel
theorem d6_106 : decode prog_72_method_10_code 106 = .ok (.istore 5, 2) := by decide +kernel
theorem d6_108 : decode prog_72_method_10_code 108 = .ok (.goto (-65), 3) := by decide +kernel
set_option maxRecDepth 65536 in
set_option maxHeartbeats 40000000 in
theorem own_pturn {p : Program} {l : Launch} {e : Env} {R : Room} {cells slots : Nat} {s : State} {m : MethodId} {args : Array Value} {below : List Frame} {meth : Method} {c : Code} {T0 : State} {locs : List Loc} {Z : State} {av0 : Array Value} {h0 : Heap} {n0 : Nat} (a0 : Addr) (av : Addr) (al : Addr) (ah : Addr) (au : Addr) (qa : Addr) (qb : Addr) (qc : Addr) (qd : Addr) (vr : Nat → Int32) (lw : Nat → Int32) (hg : Nat → Int32) (uq : Nat → Int32) (c1 : Nat → Int32) (c2 : Nat → Int32) (c3 : Nat → Int32) (c4 : Nat → Int32) (sz : Nat) (k : Nat) (nn : Nat) (y1 : Int32) (y2 : Int32) (y3 : Int32) (x6 : Slot) (X0 : Stand p l e R s m args below meth c T0 locs cells slots) (hx : p.tables.exec = Jvm.exec) (hZ : Z.Warmed39 s.vm) (hw : ∀ d ∈ tables_1, d.before av0 Z = true) (hby : c.code = prog_72_method_10_code) (hml : c.maxLocals = 7) (hown : s.vm.findClass mN4.cls = some m.cls) (e0 : T0.heap = h0) (N0 : Fr n0 locs) (Z0 : n0 ≤ h0.size) (hD : own_Dia Z h0 a0 av al ah au qa qb qc qd vr lw hg uq c1 c2 c3 c4 sz) (hk : k < 2048) (hu : uq k = own_n nn) (hnn : nn < 1000) (hmis : ¬ (vr nn = y1 ∧ lw nn = y2 ∧ hg nn = y3)) (hx6 : own_I1 x6) :
    ∃ (T' : State) (h' : Heap) (locs' : List Loc), Stand p l e R s m args below meth c T' locs' cells slots ∧ T'.heap = h' ∧ Fr n0 locs' ∧ h' = h0 ∧ ∀ tz, oS p e below T' (mkF m 43 #[rv a0, iv y1, iv y2, iv y3, iv 2047, iv ((own_n ((k + 1) % 2048))), iv (own_n nn)] []) tz → oS p e below T0 (mkF m 43 #[rv a0, iv y1, iv y2, iv y3, iv 2047, iv (own_n k), x6] []) tz := by
  obtain ⟨T1, X1, e1, st1⟩ := getF X0 hx hZ hown (host := "") (Or.inl (hw _ (own_w 26 rfl))) Via.refl e0 hD.Fau (g := (mkF m 44 #[rv a0, iv y1, iv y2, iv y3, iv 2047, iv (own_n k), x6] [(.ref a0)])) rfl rfl (hb hby d6_44)
  obtain ⟨kc2, cl2, Ar2, qk2, Sz2, Ng2, Hs2, Gs2⟩ := id hD.Aau
  have hin2 : ¬ ((own_n k) < 0 ∨ cl2.slots.size ≤ ((own_n k)).toNatClampNeg) := own_inb (n := 2048) (k := k) Sz2 (by decide) hk
  have hat2 : cl2.slots[((own_n k)).toNatClampNeg]? = some (.int (own_n nn)) := own_at (n := 2048) (k := k) (g := uq) Hs2 Sz2 (by decide) hk hu
  obtain ⟨T3, X3, e3, st3⟩ := getF X1 hx hZ hown (host := "") (Or.inl (hw _ (own_w 26 rfl))) Via.refl e1 hD.Fau (g := (mkF m 55 #[rv a0, iv y1, iv y2, iv y3, iv 2047, iv (own_n k), x6] [(.ref a0)])) rfl rfl (hb hby d6_55)
  obtain ⟨kc4, cl4, Ar4, qk4, Sz4, Ng4, Hs4, Gs4⟩ := id hD.Aau
  have hin4 : ¬ ((own_n k) < 0 ∨ cl4.slots.size ≤ ((own_n k)).toNatClampNeg) := own_inb (n := 2048) (k := k) Sz4 (by decide) hk
  have hat4 : cl4.slots[((own_n k)).toNatClampNeg]? = some (.int (own_n nn)) := own_at (n := 2048) (k := k) (g := uq) Hs4 Sz4 (by decide) hk hu
  obtain ⟨T5, X5, e5, st5⟩ := getF X3 hx hZ hown (host := "") (Or.inl (hw _ (own_w 13 rfl))) Via.refl e3 hD.Fav (g := (mkF m 64 #[rv a0, iv y1, iv y2, iv y3, iv 2047, iv (own_n k), iv (own_n nn)] [(.ref a0)])) rfl rfl (hb hby d6_64)
  obtain ⟨kc6, cl6, Ar6, qk6, Sz6, Ng6, Hs6, Gs6⟩ := id hD.Aav
  have hin6 : ¬ ((own_n nn) < 0 ∨ cl6.slots.size ≤ ((own_n nn)).toNatClampNeg) := own_inb (n := 1024) (k := nn) Sz6 (by decide) (by omega)
  have hat6 : cl6.slots[((own_n nn)).toNatClampNeg]? = some (.int (vr nn)) := own_at (n := 1024) (k := nn) (g := vr) Hs6 Sz6 (by decide) (by omega) rfl
  have S7 : ∀ tz, oS p e below T5 (mkF m 71 #[rv a0, iv y1, iv y2, iv y3, iv 2047, iv (own_n k), iv (own_n nn)] [(.int y1), (.int (vr nn))]) tz → oS p e below T0 (mkF m 43 #[rv a0, iv y1, iv y2, iv y3, iv 2047, iv (own_n k), x6] []) tz := fun tz kz => id (by
    show oS p e below T0 (mkF m 43 #[rv a0, iv y1, iv y2, iv y3, iv 2047, iv (own_n k), x6] []) _
    refine XS.aloadN X0.here hx rfl (hb hby d6_43) rfl rfl ?_
    refine st1 _ ?_
    refine XS.iload X1.here hx rfl (hb hby d6_47) rfl ?_
    refine X1.iaload hx (j := (own_n k)) (v := (.int (own_n nn))) (by rw [e1]; exact Ar2.1) (State.isArrayOf_alike hZ.alike Ar2.2.1) Ar2.2.2 hin2 hat2 (g := (mkF m 49 #[rv a0, iv y1, iv y2, iv y3, iv 2047, iv (own_n k), x6] [(.int (own_n k)), (.ref au)])) rfl rfl (hb hby d6_49) _ ?_
    refine XT.iconstV X1.here hx rfl (-1 : Int32) (hb hby d6_50) (by decide) ?_
    refine XS.icmpNo X1.here hx rfl (hb hby d6_51) rfl (XT.ii_eq_f (own_nm (by omega))) ?_
    refine XS.aloadN X1.here hx rfl (hb hby d6_54) rfl rfl ?_
    refine st3 _ ?_
    refine XS.iload X3.here hx rfl (hb hby d6_58) rfl ?_
    refine X3.iaload hx (j := (own_n k)) (v := (.int (own_n nn))) (by rw [e3]; exact Ar4.1) (State.isArrayOf_alike hZ.alike Ar4.2.1) Ar4.2.2 hin4 hat4 (g := (mkF m 60 #[rv a0, iv y1, iv y2, iv y3, iv 2047, iv (own_n k), x6] [(.int (own_n k)), (.ref au)])) rfl rfl (hb hby d6_60) _ ?_
    show oS p e below T3 (mkF m 61 #[rv a0, iv y1, iv y2, iv y3, iv 2047, iv (own_n k), x6] [(.int (own_n nn))]) _
    refine XS.istore X3.here hx rfl (hb hby d6_61) rfl (l' := #[rv a0, iv y1, iv y2, iv y3, iv 2047, iv (own_n k), iv (own_n nn)]) (by rcases hx6 with z | ⟨y, z⟩ <;> subst z <;> rfl) ?_
    refine XS.aloadN X3.here hx rfl (hb hby d6_63) rfl rfl ?_
    refine st5 _ ?_
    refine XS.iload X5.here hx rfl (hb hby d6_67) rfl ?_
    refine X5.iaload hx (j := (own_n nn)) (v := (.int (vr nn))) (by rw [e5]; exact Ar6.1) (State.isArrayOf_alike hZ.alike Ar6.2.1) Ar6.2.2 hin6 hat6 (g := (mkF m 69 #[rv a0, iv y1, iv y2, iv y3, iv 2047, iv (own_n k), iv (own_n nn)] [(.int (own_n nn)), (.ref av)])) rfl rfl (hb hby d6_69) _ ?_
    refine XS.iloadN X5.here hx rfl (hb hby d6_70) rfl ?_
    exact kz)
  by_cases hc71_8 : (vr nn) = y1
  · obtain ⟨T9, X9, e9, st9⟩ := getF X5 hx hZ hown (host := "") (Or.inl (hw _ (own_w 15 rfl))) Via.refl e5 hD.Fal (g := (mkF m 75 #[rv a0, iv y1, iv y2, iv y3, iv 2047, iv (own_n k), iv (own_n nn)] [(.ref a0)])) rfl rfl (hb hby d6_75)
    obtain ⟨kc10, cl10, Ar10, qk10, Sz10, Ng10, Hs10, Gs10⟩ := id hD.Aal
    have hin10 : ¬ ((own_n nn) < 0 ∨ cl10.slots.size ≤ ((own_n nn)).toNatClampNeg) := own_inb (n := 1024) (k := nn) Sz10 (by decide) (by omega)
    have hat10 : cl10.slots[((own_n nn)).toNatClampNeg]? = some (.int (lw nn)) := own_at (n := 1024) (k := nn) (g := lw) Hs10 Sz10 (by decide) (by omega) rfl
    have S11 : ∀ tz, oS p e below T9 (mkF m 82 #[rv a0, iv y1, iv y2, iv y3, iv 2047, iv (own_n k), iv (own_n nn)] [(.int y2), (.int (lw nn))]) tz → oS p e below T0 (mkF m 43 #[rv a0, iv y1, iv y2, iv y3, iv 2047, iv (own_n k), x6] []) tz := fun tz kz => S7 tz (by
      show oS p e below T5 (mkF m 71 #[rv a0, iv y1, iv y2, iv y3, iv 2047, iv (own_n k), iv (own_n nn)] [(.int y1), (.int (vr nn))]) _
      refine XS.icmpNo X5.here hx rfl (hb hby d6_71) rfl (XT.ii_ne_f hc71_8) ?_
      refine XS.aloadN X5.here hx rfl (hb hby d6_74) rfl rfl ?_
      refine st9 _ ?_
      refine XS.iload X9.here hx rfl (hb hby d6_78) rfl ?_
      show oS p e below T9 (mkF m 80 #[rv a0, iv y1, iv y2, iv y3, iv 2047, iv (own_n k), iv (own_n nn)] [(.int (own_n nn)), (.ref al)]) _
      refine X9.iaload hx (j := (own_n nn)) (v := (.int (lw nn))) (by rw [e9]; exact Ar10.1) (State.isArrayOf_alike hZ.alike Ar10.2.1) Ar10.2.2 hin10 hat10 (g := (mkF m 80 #[rv a0, iv y1, iv y2, iv y3, iv 2047, iv (own_n k), iv (own_n nn)] [(.int (own_n nn)), (.ref al)])) rfl rfl (hb hby d6_80) _ ?_
      refine XS.iloadN X9.here hx rfl (hb hby d6_81) rfl ?_
      exact kz)
    by_cases hc82_12 : (lw nn) = y2
    · obtain ⟨T13, X13, e13, st13⟩ := getF X9 hx hZ hown (host := "") (Or.inl (hw _ (own_w 17 rfl))) Via.refl e9 hD.Fah (g := (mkF m 86 #[rv a0, iv y1, iv y2, iv y3, iv 2047, iv (own_n k), iv (own_n nn)] [(.ref a0)])) rfl rfl (hb hby d6_86)
      obtain ⟨kc14, cl14, Ar14, qk14, Sz14, Ng14, Hs14, Gs14⟩ := id hD.Aah
      have hin14 : ¬ ((own_n nn) < 0 ∨ cl14.slots.size ≤ ((own_n nn)).toNatClampNeg) := own_inb (n := 1024) (k := nn) Sz14 (by decide) (by omega)
      have hat14 : cl14.slots[((own_n nn)).toNatClampNeg]? = some (.int (hg nn)) := own_at (n := 1024) (k := nn) (g := hg) Hs14 Sz14 (by decide) (by omega) rfl
      have S15 : ∀ tz, oS p e below T13 (mkF m 43 #[rv a0, iv y1, iv y2, iv y3, iv 2047, iv ((own_n ((k + 1) % 2048))), iv (own_n nn)] []) tz → oS p e below T0 (mkF m 43 #[rv a0, iv y1, iv y2, iv y3, iv 2047, iv (own_n k), x6] []) tz := fun tz kz => S11 tz (by
        show oS p e below T9 (mkF m 82 #[rv a0, iv y1, iv y2, iv y3, iv 2047, iv (own_n k), iv (own_n nn)] [(.int y2), (.int (lw nn))]) _
        refine XS.icmpNo X9.here hx rfl (hb hby d6_82) rfl (XT.ii_ne_f hc82_12) ?_
        refine XS.aloadN X9.here hx rfl (hb hby d6_85) rfl rfl ?_
        refine st13 _ ?_
        refine XS.iload X13.here hx rfl (hb hby d6_89) rfl ?_
        refine X13.iaload hx (j := (own_n nn)) (v := (.int (hg nn))) (by rw [e13]; exact Ar14.1) (State.isArrayOf_alike hZ.alike Ar14.2.1) Ar14.2.2 hin14 hat14 (g := (mkF m 91 #[rv a0, iv y1, iv y2, iv y3, iv 2047, iv (own_n k), iv (own_n nn)] [(.int (own_n nn)), (.ref ah)])) rfl rfl (hb hby d6_91) _ ?_
        refine XS.iloadN X13.here hx rfl (hb hby d6_92) rfl ?_
        refine XS.icmpYes X13.here hx rfl (pc0 := 93) (pc' := 99) rfl (hb hby d6_93) rfl (XT.ii_ne_t (fun q => hmis ⟨hc71_8, hc82_12, q⟩)) (by decide) (by decide) ?_
        refine XS.iload X13.here hx rfl (hb hby d6_99) rfl ?_
        show oS p e below T13 (mkF m 101 #[rv a0, iv y1, iv y2, iv y3, iv 2047, iv (own_n k), iv (own_n nn)] [(.int (own_n k))]) _
        refine XT.iconstV X13.here hx rfl (1 : Int32) (hb hby d6_101) (by decide) ?_
        refine XS.iadd X13.here hx rfl (hb hby d6_102) rfl ?_
        refine XS.iload X13.here hx rfl (hb hby d6_103) rfl ?_
        refine XS.iand X13.here hx rfl (hb hby d6_105) rfl ?_
        show oS p e below T13 (mkF m 106 #[rv a0, iv y1, iv y2, iv y3, iv 2047, iv (own_n k), iv (own_n nn)] [(.int (((own_n k) + (1 : Int32)) &&& (2047 : Int32)))]) _
        rw [own_wrap hk]
        show oS p e below T13 (mkF m 106 #[rv a0, iv y1, iv y2, iv y3, iv 2047, iv (own_n k), iv (own_n nn)] [(.int (own_n ((k + 1) % 2048)))]) _
        refine XS.istore X13.here hx rfl (hb hby d6_106) rfl (l' := #[rv a0, iv y1, iv y2, iv y3, iv 2047, iv ((own_n ((k + 1) % 2048))), iv (own_n nn)]) rfl ?_
        refine XS.goto X13.here hx rfl (pc0 := 108) (pc' := 43) rfl (hb hby d6_108) (by decide) (by decide) ?_
        exact kz)
      exact ⟨T13, _, _, X13, e13, N0, rfl, fun tz kz => S15 tz kz⟩
    · have S16 : ∀ tz, oS p e below T9 (mkF m 43 #[rv a0, iv y1, iv y2, iv y3, iv 2047, iv ((own_n ((k + 1) % 2048))), iv (own_n nn)] []) tz → oS p e below T0 (mkF m 43 #[rv a0, iv y1, iv y2, iv y3, iv 2047, iv (own_n k), x6] []) tz := fun tz kz => S11 tz (by
        show oS p e below T9 (mkF m 82 #[rv a0, iv y1, iv y2, iv y3, iv 2047, iv (own_n k), iv (own_n nn)] [(.int y2), (.int (lw nn))]) _
        refine XS.icmpYes X9.here hx rfl (pc0 := 82) (pc' := 99) rfl (hb hby d6_82) rfl (XT.ii_ne_t hc82_12) (by decide) (by decide) ?_
        refine XS.iload X9.here hx rfl (hb hby d6_99) rfl ?_
        refine XT.iconstV X9.here hx rfl (1 : Int32) (hb hby d6_101) (by decide) ?_
        refine XS.iadd X9.here hx rfl (hb hby d6_102) rfl ?_
        refine XS.iload X9.here hx rfl (hb hby d6_103) rfl ?_
        refine XS.iand X9.here hx rfl (hb hby d6_105) rfl ?_
        show oS p e below T9 (mkF m 106 #[rv a0, iv y1, iv y2, iv y3, iv 2047, iv (own_n k), iv (own_n nn)] [(.int (((own_n k) + (1 : Int32)) &&& (2047 : Int32)))]) _
        rw [own_wrap hk]
        show oS p e below T9 (mkF m 106 #[rv a0, iv y1, iv y2, iv y3, iv 2047, iv (own_n k), iv (own_n nn)] [(.int (own_n ((k + 1) % 2048)))]) _
        refine XS.istore X9.here hx rfl (hb hby d6_106) rfl (l' := #[rv a0, iv y1, iv y2, iv y3, iv 2047, iv ((own_n ((k + 1) % 2048))), iv (own_n nn)]) rfl ?_
        show oS p e below T9 (mkF m 108 #[rv a0, iv y1, iv y2, iv y3, iv 2047, iv ((own_n ((k + 1) % 2048))), iv (own_n nn)] []) _
        refine XS.goto X9.here hx rfl (pc0 := 108) (pc' := 43) rfl (hb hby d6_108) (by decide) (by decide) ?_
        exact kz)
      exact ⟨T9, _, _, X9, e9, N0, rfl, fun tz kz => S16 tz kz⟩
  · have S17 : ∀ tz, oS p e below T5 (mkF m 43 #[rv a0, iv y1, iv y2, iv y3, iv 2047, iv ((own_n ((k + 1) % 2048))), iv (own_n nn)] []) tz → oS p e below T0 (mkF m 43 #[rv a0, iv y1, iv y2, iv y3, iv 2047, iv (own_n k), x6] []) tz := fun tz kz => S7 tz (by
      show oS p e below T5 (mkF m 71 #[rv a0, iv y1, iv y2, iv y3, iv 2047, iv (own_n k), iv (own_n nn)] [(.int y1), (.int (vr nn))]) _
      refine XS.icmpYes X5.here hx rfl (pc0 := 71) (pc' := 99) rfl (hb hby d6_71) rfl (XT.ii_ne_t hc71_8) (by decide) (by decide) ?_
      refine XS.iload X5.here hx rfl (hb hby d6_99) rfl ?_
      refine XT.iconstV X5.here hx rfl (1 : Int32) (hb hby d6_101) (by decide) ?_
      refine XS.iadd X5.here hx rfl (hb hby d6_102) rfl ?_
      show oS p e below T5 (mkF m 103 #[rv a0, iv y1, iv y2, iv y3, iv 2047, iv (own_n k), iv (own_n nn)] [(.int ((own_n k) + (1 : Int32)))]) _
      refine XS.iload X5.here hx rfl (hb hby d6_103) rfl ?_
      refine XS.iand X5.here hx rfl (hb hby d6_105) rfl ?_
      show oS p e below T5 (mkF m 106 #[rv a0, iv y1, iv y2, iv y3, iv 2047, iv (own_n k), iv (own_n nn)] [(.int (((own_n k) + (1 : Int32)) &&& (2047 : Int32)))]) _
      rw [own_wrap hk]
      show oS p e below T5 (mkF m 106 #[rv a0, iv y1, iv y2, iv y3, iv 2047, iv (own_n k), iv (own_n nn)] [(.int (own_n ((k + 1) % 2048)))]) _
      refine XS.istore X5.here hx rfl (hb hby d6_106) rfl (l' := #[rv a0, iv y1, iv y2, iv y3, iv 2047, iv ((own_n ((k + 1) % 2048))), iv (own_n nn)]) rfl ?_
      refine XS.goto X5.here hx rfl (pc0 := 108) (pc' := 43) rfl (hb hby d6_108) (by decide) (by decide) ?_
      exact kz)
    exact ⟨T5, _, _, X5, e5, N0, rfl, fun tz kz => S17 tz kz⟩
set_option maxRecDepth 65536 in
set_option maxHeartbeats 40000000 in
theorem own_pleave {p : Program} {l : Launch} {e : Env} {R : Room} {cells slots : Nat} {s : State} {m : MethodId} {args : Array Value} {below : List Frame} {meth : Method} {c : Code} {T0 : State} {locs : List Loc} {Z : State} {av0 : Array Value} {h0 : Heap} {n0 : Nat} (a0 : Addr) (av : Addr) (al : Addr) (ah : Addr) (au : Addr) (qa : Addr) (qb : Addr) (qc : Addr) (qd : Addr) (vr : Nat → Int32) (lw : Nat → Int32) (hg : Nat → Int32) (uq : Nat → Int32) (c1 : Nat → Int32) (c2 : Nat → Int32) (c3 : Nat → Int32) (c4 : Nat → Int32) (sz : Nat) (k : Nat) (y1 : Int32) (y2 : Int32) (y3 : Int32) (x6 : Slot) (X0 : Stand p l e R s m args below meth c T0 locs cells slots) (hx : p.tables.exec = Jvm.exec) (hZ : Z.Warmed39 s.vm) (hw : ∀ d ∈ tables_1, d.before av0 Z = true) (hby : c.code = prog_72_method_10_code) (hml : c.maxLocals = 7) (hown : s.vm.findClass mN4.cls = some m.cls) (e0 : T0.heap = h0) (N0 : Fr n0 locs) (Z0 : n0 ≤ h0.size) (hD : own_Dia Z h0 a0 av al ah au qa qb qc qd vr lw hg uq c1 c2 c3 c4 sz) (hk : k < 2048) (hu : uq k = -1) :
    ∃ (T' : State) (h' : Heap) (locs' : List Loc), Stand p l e R s m args below meth c T' locs' cells slots ∧ T'.heap = h' ∧ Fr n0 locs' ∧ h' = h0 ∧ ∀ tz, oS p e below T' (mkF m 111 #[rv a0, iv y1, iv y2, iv y3, iv 2047, iv (own_n k), x6] []) tz → oS p e below T0 (mkF m 43 #[rv a0, iv y1, iv y2, iv y3, iv 2047, iv (own_n k), x6] []) tz := by
  obtain ⟨T1, X1, e1, st1⟩ := getF X0 hx hZ hown (host := "") (Or.inl (hw _ (own_w 26 rfl))) Via.refl e0 hD.Fau (g := (mkF m 44 #[rv a0, iv y1, iv y2, iv y3, iv 2047, iv (own_n k), x6] [(.ref a0)])) rfl rfl (hb hby d6_44)
  obtain ⟨kc2, cl2, Ar2, qk2, Sz2, Ng2, Hs2, Gs2⟩ := id hD.Aau
  have hin2 : ¬ ((own_n k) < 0 ∨ cl2.slots.size ≤ ((own_n k)).toNatClampNeg) := own_inb (n := 2048) (k := k) Sz2 (by decide) hk
  have hat2 : cl2.slots[((own_n k)).toNatClampNeg]? = some (.int (-1 : Int32)) := own_at (n := 2048) (k := k) (g := uq) Hs2 Sz2 (by decide) hk hu
  have S3 : ∀ tz, oS p e below T1 (mkF m 111 #[rv a0, iv y1, iv y2, iv y3, iv 2047, iv (own_n k), x6] []) tz → oS p e below T0 (mkF m 43 #[rv a0, iv y1, iv y2, iv y3, iv 2047, iv (own_n k), x6] []) tz := fun tz kz => id (by
    show oS p e below T0 (mkF m 43 #[rv a0, iv y1, iv y2, iv y3, iv 2047, iv (own_n k), x6] []) _
    refine XS.aloadN X0.here hx rfl (hb hby d6_43) rfl rfl ?_
    refine st1 _ ?_
    refine XS.iload X1.here hx rfl (hb hby d6_47) rfl ?_
    refine X1.iaload hx (j := (own_n k)) (v := (.int (-1 : Int32))) (by rw [e1]; exact Ar2.1) (State.isArrayOf_alike hZ.alike Ar2.2.1) Ar2.2.2 hin2 hat2 (g := (mkF m 49 #[rv a0, iv y1, iv y2, iv y3, iv 2047, iv (own_n k), x6] [(.int (own_n k)), (.ref au)])) rfl rfl (hb hby d6_49) _ ?_
    refine XT.iconstV X1.here hx rfl (-1 : Int32) (hb hby d6_50) (by decide) ?_
    refine XS.icmpYes X1.here hx rfl (pc0 := 51) (pc' := 111) rfl (hb hby d6_51) rfl (XT.ii_eq_t (by decide)) (by decide) (by decide) ?_
    exact kz)
  exact ⟨T1, _, _, X1, e1, N0, rfl, fun tz kz => S3 tz kz⟩
set_option maxHeartbeats 40000000 in
theorem own_probe {p : Program} {l : Launch} {e : Env} {R : Room} {s : State} {m : MethodId} {args : Array Value} {below : List Frame} {meth : Method} {c : Code} {cells slots : Nat} {Z : State} {av0 : Array Value} {n0 : Nat} {h0 : Heap} (a0 av al ah au qa qb qc qd : Addr) (vr lw hg uq c1 c2 c3 c4 : Nat → Int32) (sz : Nat) (y1 y2 y3 : Int32)
    (hx : p.tables.exec = Jvm.exec) (hZ : Z.Warmed39 s.vm) (hw : ∀ d ∈ tables_1, d.before av0 Z = true) (hby : c.code = prog_72_method_10_code) (hml : c.maxLocals = 7) (hown : s.vm.findClass mN4.cls = some m.cls) (hD : own_Dia Z h0 a0 av al ah au qa qb qc qd vr lw hg uq c1 c2 c3 c4 sz) (hU : own_UI uq sz) (hsz : sz < 1000) (hmis : ∀ n, 2 ≤ n → n < sz → ¬ (vr n = y1 ∧ lw n = y2 ∧ hg n = y3)) (Z0 : n0 ≤ h0.size) :
    ∀ (t k : Nat) (x6 : Slot) (T0 : State) (locs : List Loc), own_I1 x6 → k < 2048 → uq ((k + t) % 2048) = -1 → Stand p l e R s m args below meth c T0 locs cells slots → T0.heap = h0 → Fr n0 locs →
    ∃ (T' : State) (locs' : List Loc) (k' : Nat) (x6' : Slot), own_I1 x6' ∧ k' < 2048 ∧ uq k' = -1 ∧ Stand p l e R s m args below meth c T' locs' cells slots ∧ T'.heap = h0 ∧ Fr n0 locs' ∧ ∀ t, oS p e below T' (mkF m 111 #[rv a0, iv y1, iv y2, iv y3, iv 2047, iv (own_n k'), x6'] []) t → oS p e below T0 (mkF m 43 #[rv a0, iv y1, iv y2, iv y3, iv 2047, iv (own_n k), x6] []) t := by
  intro t
  induction t with
  | zero =>
    intro k x6 T0 locs hx6 hk hu X0 e0 N0
    rw [Nat.add_zero, Nat.mod_eq_of_lt hk] at hu
    obtain ⟨T1, h1, l1, X1, e1, N1, rfl, S1⟩ := own_pleave a0 av al ah au qa qb qc qd vr lw hg uq c1 c2 c3 c4 sz k y1 y2 y3 x6 X0 hx hZ hw hby hml hown e0 N0 Z0 hD hk hu
    exact ⟨T1, l1, k, x6, hx6, hk, hu, X1, e1, N1, S1⟩
  | succ t ih =>
    intro k x6 T0 locs hx6 hk hu X0 e0 N0
    rcases hU.1 k hk with q | ⟨n, q1, q2, q3⟩
    · obtain ⟨T1, h1, l1, X1, e1, N1, rfl, S1⟩ := own_pleave a0 av al ah au qa qb qc qd vr lw hg uq c1 c2 c3 c4 sz k y1 y2 y3 x6 X0 hx hZ hw hby hml hown e0 N0 Z0 hD hk q
      exact ⟨T1, l1, k, x6, hx6, hk, q, X1, e1, N1, S1⟩
    · obtain ⟨T1, h1, l1, X1, e1, N1, rfl, S1⟩ := own_pturn a0 av al ah au qa qb qc qd vr lw hg uq c1 c2 c3 c4 sz k n y1 y2 y3 x6 X0 hx hZ hw hby hml hown e0 N0 Z0 hD hk q3 (by omega) (hmis n q1 q2) hx6
      obtain ⟨T2, l2, k', x6', r0, r1, r2, X2, e2, N2, S2⟩ := ih ((k + 1) % 2048) _ T1 l1 (Or.inr ⟨_, rfl⟩) (by omega) (by rw [Nat.mod_add_mod, Nat.add_assoc, Nat.add_comm 1 t]; exact hu) X1 e1 N1
      exact ⟨T2, l2, k', x6', r0, r1, r2, X2, e2, N2, fun t k => S1 t (S2 t k)⟩
theorem own_UI.reach {uq : Nat → Int32} {sz : Nat} (h : own_UI uq sz) (hs : sz < 1000) (k : Nat) : ∃ t, uq ((k + t) % 2048) = -1 := by
  obtain ⟨k0, h1, h2⟩ := h.free hs
  refine ⟨k0 + 2048 * (k + 1) - k, ?_⟩
  rw [show (k + (k0 + 2048 * (k + 1) - k)) % 2048 = k0 by omega]; exact h2
theorem d6_0 : decode prog_72_method_10_code 0 = .ok (.iload_n 2, 1) := by decide +kernel
theorem d6_1 : decode prog_72_method_10_code 1 = .ok (.iload_n 3, 1) := by decide +kernel
theorem d6_2 : decode prog_72_method_10_code 2 = .ok (.if_icmp .ne 5, 3) := by decide +kernel
theorem d6_7 : decode prog_72_method_10_code 7 = .ok (.aload_n 0, 1) := by decide +kernel
theorem d6_8 : decode prog_72_method_10_code 8 = .ok (.getfield 41, 3) := by decide +kernel
theorem d6_11 : decode prog_72_method_10_code 11 = .ok (.aload_n 0, 1) := by decide +kernel
theorem d6_12 : decode prog_72_method_10_code 12 = .ok (.getfield 11, 3) := by decide +kernel
theorem d6_15 : decode prog_72_method_10_code 15 = .ok (.arraylength, 1) := by decide +kernel
theorem d6_16 : decode prog_72_method_10_code 16 = .ok (.if_icmp .ne 7, 3) := by decide +kernel
theorem d6_23 : decode prog_72_method_10_code 23 = .ok (.aload_n 0, 1) := by decide +kernel
theorem d6_24 : decode prog_72_method_10_code 24 = .ok (.getfield 25, 3) := by decide +kernel
theorem d6_27 : decode prog_72_method_10_code 27 = .ok (.arraylength, 1) := by decide +kernel
theorem d6_28 : decode prog_72_method_10_code 28 = .ok (.iconst 1, 1) := by decide +kernel
theorem d6_29 : decode prog_72_method_10_code 29 = .ok (.isub, 1) := by decide +kernel
theorem d6_30 : decode prog_72_method_10_code 30 = .ok (.istore 4, 2) := by decide +kernel
theorem d6_32 : decode prog_72_method_10_code 32 = .ok (.iload_n 1, 1) := by decide +kernel
theorem d6_33 : decode prog_72_method_10_code 33 = .ok (.iload_n 2, 1) := by decide +kernel
theorem d6_34 : decode prog_72_method_10_code 34 = .ok (.iload_n 3, 1) := by decide +kernel
theorem d6_35 : decode prog_72_method_10_code 35 = .ok (.invokestatic 106, 3) := by decide +kernel
theorem d6_38 : decode prog_72_method_10_code 38 = .ok (.iload 4, 2) := by decide +kernel
theorem d6_40 : decode prog_72_method_10_code 40 = .ok (.iand, 1) := by decide +kernel
theorem d6_41 : decode prog_72_method_10_code 41 = .ok (.istore 5, 2) := by decide +kernel
theorem d6_111 : decode prog_72_method_10_code 111 = .ok (.aload_n 0, 1) := by decide +kernel
theorem d6_112 : decode prog_72_method_10_code 112 = .ok (.dup, 1) := by decide +kernel
theorem d6_113 : decode prog_72_method_10_code 113 = .ok (.getfield 41, 3) := by decide +kernel
theorem d6_116 : decode prog_72_method_10_code 116 = .ok (.dup_x1, 1) := by decide +kernel
theorem d6_117 : decode prog_72_method_10_code 117 = .ok (.iconst 1, 1) := by decide +kernel
theorem d6_118 : decode prog_72_method_10_code 118 = .ok (.iadd, 1) := by decide +kernel
theorem d6_119 : decode prog_72_method_10_code 119 = .ok (.putfield 41, 3) := by decide +kernel
theorem d6_122 : decode prog_72_method_10_code 122 = .ok (.istore 6, 2) := by decide +kernel
theorem d6_124 : decode prog_72_method_10_code 124 = .ok (.aload_n 0, 1) := by decide +kernel
theorem d6_125 : decode prog_72_method_10_code 125 = .ok (.getfield 11, 3) := by decide +kernel
theorem d6_128 : decode prog_72_method_10_code 128 = .ok (.iload 6, 2) := by decide +kernel
theorem d6_130 : decode prog_72_method_10_code 130 = .ok (.iload_n 1, 1) := by decide +kernel
theorem d6_131 : decode prog_72_method_10_code 131 = .ok (.iastore, 1) := by decide +kernel
theorem d6_132 : decode prog_72_method_10_code 132 = .ok (.aload_n 0, 1) := by decide +kernel
theorem d6_133 : decode prog_72_method_10_code 133 = .ok (.getfield 15, 3) := by decide +kernel
theorem d6_136 : decode prog_72_method_10_code 136 = .ok (.iload 6, 2) := by decide +kernel
theorem d6_138 : decode prog_72_method_10_code 138 = .ok (.iload_n 2, 1) := by decide +kernel
theorem d6_139 : decode prog_72_method_10_code 139 = .ok (.iastore, 1) := by decide +kernel
theorem d6_140 : decode prog_72_method_10_code 140 = .ok (.aload_n 0, 1) := by decide +kernel
theorem d6_141 : decode prog_72_method_10_code 141 = .ok (.getfield 18, 3) := by decide +kernel
theorem d6_144 : decode prog_72_method_10_code 144 = .ok (.iload 6, 2) := by decide +kernel
theorem d6_146 : decode prog_72_method_10_code 146 = .ok (.iload_n 3, 1) := by decide +kernel
theorem d6_147 : decode prog_72_method_10_code 147 = .ok (.iastore, 1) := by decide +kernel
theorem d6_148 : decode prog_72_method_10_code 148 = .ok (.aload_n 0, 1) := by decide +kernel
theorem d6_149 : decode prog_72_method_10_code 149 = .ok (.getfield 25, 3) := by decide +kernel
theorem d6_152 : decode prog_72_method_10_code 152 = .ok (.iload 5, 2) := by decide +kernel
theorem d6_154 : decode prog_72_method_10_code 154 = .ok (.iload 6, 2) := by decide +kernel
theorem d6_156 : decode prog_72_method_10_code 156 = .ok (.iastore, 1) := by decide +kernel
theorem d6_157 : decode prog_72_method_10_code 157 = .ok (.iload 6, 2) := by decide +kernel
theorem d6_159 : decode prog_72_method_10_code 159 = .ok (.ireturn, 1) := by decide +kernel
theorem pd__III_I : parseMethodDescriptor "(III)I" = some ⟨[.int, .int, .int], some .int⟩ := by decide +kernel
def QrmNode (Z : State) (a0 : Addr) (av : Addr) (al : Addr) (ah : Addr) (au : Addr) (qa : Addr) (qb : Addr) (qc : Addr) (qd : Addr) (vr : Nat → Int32) (lw : Nat → Int32) (hg : Nat → Int32) (uq : Nat → Int32) (c1 : Nat → Int32) (c2 : Nat → Int32) (c3 : Nat → Int32) (c4 : Nat → Int32) (sz : Nat) (y1 : Int32) (y2 : Int32) (y3 : Int32) (h0 : Heap) (n0 : Nat) (v : Option Value) (h : Heap) (L : List Loc) : Prop := ∃ k : Nat, k < 2048 ∧ v = some (.int (own_n sz)) ∧ Fr n0 L ∧ Keep h0 h [a0, av, al, ah, au, qa, qb, qc, qd] ∧ own_UI (own_up uq k (own_n sz)) (sz + 1) ∧ own_Dia Z h a0 av al ah au qa qb qc qd (own_up vr sz y1) (own_up lw sz y2) (own_up hg sz y3) (own_up uq k (own_n sz)) c1 c2 c3 c4 (sz + 1)
set_option maxRecDepth 65536 in
set_option maxHeartbeats 40000000 in
theorem rmNode (l : Launch) (Z : State) (av0 : Array Value) (hw : ∀ d ∈ tables_1, d.before av0 Z = true) (ws : List Jvm.Cond) (a0 : Addr) (av : Addr) (al : Addr) (ah : Addr) (au : Addr) (qa : Addr) (qb : Addr) (qc : Addr) (qd : Addr) (vr : Nat → Int32) (lw : Nat → Int32) (hg : Nat → Int32) (uq : Nat → Int32) (c1 : Nat → Int32) (c2 : Nat → Int32) (c3 : Nat → Int32) (c4 : Nat → Int32) (sz : Nat) (y1 : Int32) (y2 : Int32) (y3 : Int32) (h0 : Heap) (n0 : Nat) (Z0 : n0 ≤ h0.size) (hD : own_Dia Z h0 a0 av al ah au qa qb qc qd vr lw hg uq c1 c2 c3 c4 sz) (hS : own_Sep n0 [a0, av, al, ah, au, qa, qb, qc, qd]) (hU : own_UI uq sz) (htwo : 2 ≤ sz) (hsz : sz < 1000) (hlh : ¬ y2 = y3) (hmis : ∀ n, 2 ≤ n → n < sz → ¬ (vr n = y1 ∧ lw n = y2 ∧ hg n = y3)) :
    own_Met l mN4 prog_72_method_10_code 7 (some .int) ws ({ frames := 1, cells := 0, slots := 0, locals := 15 } : Room) #[(.ref a0), (.int y1), (.int y2), (.int y3)] Z h0 (QrmNode Z a0 av al ah au qa qb qc qd vr lw hg uq c1 c2 c3 c4 sz y1 y2 y3 h0 n0) := by
  refine MetFree.of_bodySF (plainFor_of_name pn_DecisionDiagram) hisR ?_
  intro p e s m args below meth c s₁ Bd hml0 hP hK
  obtain ⟨rfl, hZ, hh⟩ := hP
  have hml : c.maxLocals = 7 := hml0
  obtain ⟨hx, hby, hown, hnm, X0, e0⟩ := own_start Bd hml0 hh
  have N0 := Fr.nil n0
  have pre0 : ∀ tz, oS p e below s₁ (mkF m 0 #[rv a0, iv y1, iv y2, iv y3, .unset, .unset, .unset] []) tz → Steps p.tables e below (s₁.setTop (entryFrame m #[(.ref a0), (.int y1), (.int y2), (.int y3)] 7)) tz := fun tz kz => castTop (by first | (simp [entryFrame, mkF, argsToLocals, Value.category]; done) | rfl) kz
  obtain ⟨T1, X1, e1, st1⟩ := getF X0 hx hZ hown (host := "") (Or.inl (hw _ (own_w 37 rfl))) Via.refl e0 hD.Fs (g := (mkF m 8 #[rv a0, iv y1, iv y2, iv y3, .unset, .unset, .unset] [(.ref a0)])) rfl rfl (hb hby d6_8)
  obtain ⟨T2, X2, e2, st2⟩ := getF X1 hx hZ hown (host := "") (Or.inl (hw _ (own_w 13 rfl))) Via.refl e1 hD.Fav (g := (mkF m 12 #[rv a0, iv y1, iv y2, iv y3, .unset, .unset, .unset] [(.ref a0), (.int (own_n sz))])) rfl rfl (hb hby d6_12)
  obtain ⟨kc3, cl3, Ar3, qk3, Sz3, Ng3, Hs3, Gs3⟩ := id hD.Aav
  obtain ⟨T4, X4, e4, st4⟩ := getF X2 hx hZ hown (host := "") (Or.inl (hw _ (own_w 26 rfl))) Via.refl e2 hD.Fau (g := (mkF m 24 #[rv a0, iv y1, iv y2, iv y3, .unset, .unset, .unset] [(.ref a0)])) rfl rfl (hb hby d6_24)
  obtain ⟨kc5, cl5, Ar5, qk5, Sz5, Ng5, Hs5, Gs5⟩ := id hD.Aau
  obtain ⟨_, T6, Lc6, X6, hQ6, st6⟩ := own_callS (W := 0) (y := mN3) X4 hx hZ hown (hw _ (own_w 48 rfl)) (hw _ (own_w 49 rfl)) (hw _ (own_w 5 rfl)) (hw _ (own_w 50 rfl)) (by decide) (rmMix l Z av0 hw [] y1 y2 y3 h0 n0 Z0 ) (by decide) (by decide) (g := (mkF m 35 #[rv a0, iv y1, iv y2, iv y3, iv 2047, .unset, .unset] [(.int y3), (.int y2), (.int y1)])) rfl (by rw [hml]; rfl) (argsL := [(.int y1), (.int y2), (.int y3)]) (rest := []) (lenOf pd__III_I rfl) rfl (hb hby d6_35) rfl e4 (by decide : 0 + 0 ≤ _) (by decide : 0 + 0 ≤ _)
  obtain ⟨rfl, N6q, hh6⟩ := hQ6
  have N6 := Fr.app N0 N6q
  have e6 : T6.heap = h0 := hh6
  have S7 : ∀ tz, oS p e below T6 (mkF m 43 #[rv a0, iv y1, iv y2, iv y3, iv 2047, iv ((own_n (own_us y1 y2 y3))), .unset] []) tz → oS p e below s₁ (mkF m 0 #[rv a0, iv y1, iv y2, iv y3, .unset, .unset, .unset] []) tz := fun tz kz => id (by
    show oS p e below s₁ (mkF m 0 #[rv a0, iv y1, iv y2, iv y3, .unset, .unset, .unset] []) _
    refine XS.iloadN X0.here hx rfl (hb hby d6_0) rfl ?_
    refine XS.iloadN X0.here hx rfl (hb hby d6_1) rfl ?_
    refine XS.icmpYes X0.here hx rfl (pc0 := 2) (pc' := 7) rfl (hb hby d6_2) rfl (XT.ii_ne_t hlh) (by decide) (by decide) ?_
    refine XS.aloadN X0.here hx rfl (hb hby d6_7) rfl rfl ?_
    refine st1 _ ?_
    refine XS.aloadN X1.here hx rfl (hb hby d6_11) rfl rfl ?_
    refine st2 _ ?_
    refine X2.arraylength hx (by rw [e2]; exact Ar3.1) (State.isArrayOf_alike hZ.alike Ar3.2.1) (g := (mkF m 15 #[rv a0, iv y1, iv y2, iv y3, .unset, .unset, .unset] [(.ref av), (.int (own_n sz))])) rfl rfl (hb hby d6_15) _ ?_
    rw [len_of Sz3 Ng3]
    refine XS.icmpYes X2.here hx rfl (pc0 := 16) (pc' := 23) rfl (hb hby d6_16) rfl (XT.ii_ne_t (own_nne (j := 1024) (by omega) (by decide) (by omega))) (by decide) (by decide) ?_
    refine XS.aloadN X2.here hx rfl (hb hby d6_23) rfl rfl ?_
    show oS p e below T2 (mkF m 24 #[rv a0, iv y1, iv y2, iv y3, .unset, .unset, .unset] [(.ref a0)]) _
    refine st4 _ ?_
    refine X4.arraylength hx (by rw [e4]; exact Ar5.1) (State.isArrayOf_alike hZ.alike Ar5.2.1) (g := (mkF m 27 #[rv a0, iv y1, iv y2, iv y3, .unset, .unset, .unset] [(.ref au)])) rfl rfl (hb hby d6_27) _ ?_
    rw [len_of Sz5 Ng5]
    refine XT.iconstV X4.here hx rfl (1 : Int32) (hb hby d6_28) (by decide) ?_
    refine XS.isub X4.here hx rfl (hb hby d6_29) rfl ?_
    refine XS.istore X4.here hx rfl (hb hby d6_30) rfl (l' := #[rv a0, iv y1, iv y2, iv y3, iv 2047, .unset, .unset]) rfl ?_
    refine XS.iloadN X4.here hx rfl (hb hby d6_32) rfl ?_
    refine XS.iloadN X4.here hx rfl (hb hby d6_33) rfl ?_
    refine XS.iloadN X4.here hx rfl (hb hby d6_34) rfl ?_
    refine st6 _ ?_
    refine XS.iload X6.here hx rfl (hb hby d6_38) rfl ?_
    show oS p e below T6 (mkF m 40 #[rv a0, iv y1, iv y2, iv y3, iv 2047, .unset, .unset] [(.int 2047), (.int (own_mix y1 y2 y3))]) _
    refine XS.iand X6.here hx rfl (hb hby d6_40) rfl ?_
    show oS p e below T6 (mkF m 41 #[rv a0, iv y1, iv y2, iv y3, iv 2047, .unset, .unset] [(.int ((own_mix y1 y2 y3) &&& (2047 : Int32)))]) _
    rw [own_use]
    show oS p e below T6 (mkF m 41 #[rv a0, iv y1, iv y2, iv y3, iv 2047, .unset, .unset] [(.int (own_n (own_us y1 y2 y3)))]) _
    refine XS.istore X6.here hx rfl (hb hby d6_41) rfl (l' := #[rv a0, iv y1, iv y2, iv y3, iv 2047, iv ((own_n (own_us y1 y2 y3))), .unset]) rfl ?_
    exact kz)
  obtain ⟨t8, ht8⟩ := hU.reach hsz (own_us y1 y2 y3)
  obtain ⟨T8, l8, k8, z8, hz8, hk8, hu8, X8, e8, N8, st8⟩ := own_probe (h0 := h0) a0 av al ah au qa qb qc qd vr lw hg uq c1 c2 c3 c4 sz y1 y2 y3 hx hZ hw hby hml hown hD hU hsz hmis Z0 t8 (own_us y1 y2 y3) _ T6 _ (Or.inl rfl) (own_usl _ _ _) ht8 X6 e6 N6
  obtain ⟨T9, X9, e9, st9⟩ := getF X8 hx hZ hown (host := "") (Or.inl (hw _ (own_w 37 rfl))) Via.refl e8 hD.Fs (g := (mkF m 113 #[rv a0, iv y1, iv y2, iv y3, iv 2047, iv (own_n k8), z8] [(.ref a0), (.ref a0)])) rfl rfl (hb hby d6_113)
  obtain ⟨T10, h10, X10, e10, W10, st10⟩ := putF X9 hx hZ hown (host := "") (Or.inl (hw _ (own_w 37 rfl))) Via.refl e9 hD.Fs hD.E (Or.inl (hw _ (own_w 38 rfl))) (hw _ (own_w 4 rfl)) (ty := .int) (by decide) rfl rfl (g := (mkF m 119 #[rv a0, iv y1, iv y2, iv y3, iv 2047, iv (own_n k8), z8] [(.int (own_n (sz + 1))), (.ref a0), (.int (own_n sz))])) rfl rfl (hb hby d6_119)
  have N10 := Fr.snoc X10 N8 (hS.ge _ (List.mem_of_getElem? (i := 0) rfl))
  have Z10 : n0 ≤ h10.size := Nat.le_trans Z0 (Nat.le_of_eq W10.size.symm)
  have K10 : Keep h0 h10 [a0, av, al, ah, au, qa, qb, qc, qd] := (Keep.refl h0 [a0, av, al, ah, au, qa, qb, qc, qd]).wr W10 (Or.inl (List.mem_of_getElem? (i := 0) rfl))
  have Fw10 := hD.Fs.same W10
  have f11 := (hD.Fav.other W10 (Or.inr (slot_ne (Or.inl (hw _ (own_w 14 rfl))) (Or.inl (hw _ (own_w 38 rfl))) (by decide) (t := (.array .int)) (t' := .int) (by decide) (by decide))))
  obtain ⟨T12, X12, e12, st12⟩ := getF X10 hx hZ hown (host := "") (Or.inl (hw _ (own_w 13 rfl))) Via.refl e10 f11 (g := (mkF m 125 #[rv a0, iv y1, iv y2, iv y3, iv 2047, iv (own_n k8), iv (own_n sz)] [(.ref a0)])) rfl rfl (hb hby d6_125)
  have f13 := (hD.Aav.other W10 (Ne.symm (own_nd hS.nd 0 1 (by decide) rfl rfl)))
  obtain ⟨kc14, cl14, Ar14, qk14, Sz14, Ng14, Hs14, Gs14⟩ := id f13
  have hin14 : ¬ ((own_n sz) < 0 ∨ cl14.slots.size ≤ ((own_n sz)).toNatClampNeg) := own_inb (n := 1024) (k := sz) Sz14 (by decide) (by omega)
  obtain ⟨T15, h15, X15, e15, W15, st15⟩ := stI X12 hx hZ e12 Ar14 (j := (own_n sz)) hin14 (g := (mkF m 131 #[rv a0, iv y1, iv y2, iv y3, iv 2047, iv (own_n k8), iv (own_n sz)] [(.int y1), (.int (own_n sz)), (.ref av)])) rfl rfl (hb hby d6_131)
  have N15 := Fr.snoc X15 N10 (hS.ge _ (List.mem_of_getElem? (i := 1) rfl))
  have Z15 : n0 ≤ h15.size := Nat.le_trans Z10 (Nat.le_of_eq W15.size.symm)
  have K15 : Keep h0 h15 [a0, av, al, ah, au, qa, qb, qc, qd] := K10.wr W15 (Or.inl (List.mem_of_getElem? (i := 1) rfl))
  have V15 : own_Ar Z h15 av 1024 (own_up vr sz y1) := own_arset (g := vr) (k := sz) Ar14 qk14 Sz14 Ng14 Hs14 Gs14 W15 (by decide) (by omega)
  have f16 := ((hD.Fal.other W10 (Or.inr (slot_ne (Or.inl (hw _ (own_w 16 rfl))) (Or.inl (hw _ (own_w 38 rfl))) (by decide) (t := (.array .int)) (t' := .int) (by decide) (by decide)))).other W15 (Or.inl (own_nd hS.nd 0 1 (by decide) rfl rfl)))
  obtain ⟨T17, X17, e17, st17⟩ := getF X15 hx hZ hown (host := "") (Or.inl (hw _ (own_w 15 rfl))) Via.refl e15 f16 (g := (mkF m 133 #[rv a0, iv y1, iv y2, iv y3, iv 2047, iv (own_n k8), iv (own_n sz)] [(.ref a0)])) rfl rfl (hb hby d6_133)
  have f18 := ((hD.Aal.other W10 (Ne.symm (own_nd hS.nd 0 2 (by decide) rfl rfl))).other W15 (Ne.symm (own_nd hS.nd 1 2 (by decide) rfl rfl)))
  obtain ⟨kc19, cl19, Ar19, qk19, Sz19, Ng19, Hs19, Gs19⟩ := id f18
  have hin19 : ¬ ((own_n sz) < 0 ∨ cl19.slots.size ≤ ((own_n sz)).toNatClampNeg) := own_inb (n := 1024) (k := sz) Sz19 (by decide) (by omega)
  obtain ⟨T20, h20, X20, e20, W20, st20⟩ := stI X17 hx hZ e17 Ar19 (j := (own_n sz)) hin19 (g := (mkF m 139 #[rv a0, iv y1, iv y2, iv y3, iv 2047, iv (own_n k8), iv (own_n sz)] [(.int y2), (.int (own_n sz)), (.ref al)])) rfl rfl (hb hby d6_139)
  have N20 := Fr.snoc X20 N15 (hS.ge _ (List.mem_of_getElem? (i := 2) rfl))
  have Z20 : n0 ≤ h20.size := Nat.le_trans Z15 (Nat.le_of_eq W20.size.symm)
  have K20 : Keep h0 h20 [a0, av, al, ah, au, qa, qb, qc, qd] := K15.wr W20 (Or.inl (List.mem_of_getElem? (i := 2) rfl))
  have V20 : own_Ar Z h20 al 1024 (own_up lw sz y2) := own_arset (g := lw) (k := sz) Ar19 qk19 Sz19 Ng19 Hs19 Gs19 W20 (by decide) (by omega)
  have f21 := (((hD.Fah.other W10 (Or.inr (slot_ne (Or.inl (hw _ (own_w 18 rfl))) (Or.inl (hw _ (own_w 38 rfl))) (by decide) (t := (.array .int)) (t' := .int) (by decide) (by decide)))).other W15 (Or.inl (own_nd hS.nd 0 1 (by decide) rfl rfl))).other W20 (Or.inl (own_nd hS.nd 0 2 (by decide) rfl rfl)))
  obtain ⟨T22, X22, e22, st22⟩ := getF X20 hx hZ hown (host := "") (Or.inl (hw _ (own_w 17 rfl))) Via.refl e20 f21 (g := (mkF m 141 #[rv a0, iv y1, iv y2, iv y3, iv 2047, iv (own_n k8), iv (own_n sz)] [(.ref a0)])) rfl rfl (hb hby d6_141)
  have f23 := (((hD.Aah.other W10 (Ne.symm (own_nd hS.nd 0 3 (by decide) rfl rfl))).other W15 (Ne.symm (own_nd hS.nd 1 3 (by decide) rfl rfl))).other W20 (Ne.symm (own_nd hS.nd 2 3 (by decide) rfl rfl)))
  obtain ⟨kc24, cl24, Ar24, qk24, Sz24, Ng24, Hs24, Gs24⟩ := id f23
  have hin24 : ¬ ((own_n sz) < 0 ∨ cl24.slots.size ≤ ((own_n sz)).toNatClampNeg) := own_inb (n := 1024) (k := sz) Sz24 (by decide) (by omega)
  obtain ⟨T25, h25, X25, e25, W25, st25⟩ := stI X22 hx hZ e22 Ar24 (j := (own_n sz)) hin24 (g := (mkF m 147 #[rv a0, iv y1, iv y2, iv y3, iv 2047, iv (own_n k8), iv (own_n sz)] [(.int y3), (.int (own_n sz)), (.ref ah)])) rfl rfl (hb hby d6_147)
  have N25 := Fr.snoc X25 N20 (hS.ge _ (List.mem_of_getElem? (i := 3) rfl))
  have Z25 : n0 ≤ h25.size := Nat.le_trans Z20 (Nat.le_of_eq W25.size.symm)
  have K25 : Keep h0 h25 [a0, av, al, ah, au, qa, qb, qc, qd] := K20.wr W25 (Or.inl (List.mem_of_getElem? (i := 3) rfl))
  have V25 : own_Ar Z h25 ah 1024 (own_up hg sz y3) := own_arset (g := hg) (k := sz) Ar24 qk24 Sz24 Ng24 Hs24 Gs24 W25 (by decide) (by omega)
  have f26 := ((((hD.Fau.other W10 (Or.inr (slot_ne (Or.inl (hw _ (own_w 27 rfl))) (Or.inl (hw _ (own_w 38 rfl))) (by decide) (t := (.array .int)) (t' := .int) (by decide) (by decide)))).other W15 (Or.inl (own_nd hS.nd 0 1 (by decide) rfl rfl))).other W20 (Or.inl (own_nd hS.nd 0 2 (by decide) rfl rfl))).other W25 (Or.inl (own_nd hS.nd 0 3 (by decide) rfl rfl)))
  obtain ⟨T27, X27, e27, st27⟩ := getF X25 hx hZ hown (host := "") (Or.inl (hw _ (own_w 26 rfl))) Via.refl e25 f26 (g := (mkF m 149 #[rv a0, iv y1, iv y2, iv y3, iv 2047, iv (own_n k8), iv (own_n sz)] [(.ref a0)])) rfl rfl (hb hby d6_149)
  have f28 := ((((hD.Aau.other W10 (Ne.symm (own_nd hS.nd 0 4 (by decide) rfl rfl))).other W15 (Ne.symm (own_nd hS.nd 1 4 (by decide) rfl rfl))).other W20 (Ne.symm (own_nd hS.nd 2 4 (by decide) rfl rfl))).other W25 (Ne.symm (own_nd hS.nd 3 4 (by decide) rfl rfl)))
  obtain ⟨kc29, cl29, Ar29, qk29, Sz29, Ng29, Hs29, Gs29⟩ := id f28
  have hin29 : ¬ ((own_n k8) < 0 ∨ cl29.slots.size ≤ ((own_n k8)).toNatClampNeg) := own_inb (n := 2048) (k := k8) Sz29 (by decide) hk8
  obtain ⟨T30, h30, X30, e30, W30, st30⟩ := stI X27 hx hZ e27 Ar29 (j := (own_n k8)) hin29 (g := (mkF m 156 #[rv a0, iv y1, iv y2, iv y3, iv 2047, iv (own_n k8), iv (own_n sz)] [(.int (own_n sz)), (.int (own_n k8)), (.ref au)])) rfl rfl (hb hby d6_156)
  have N30 := Fr.snoc X30 N25 (hS.ge _ (List.mem_of_getElem? (i := 4) rfl))
  have Z30 : n0 ≤ h30.size := Nat.le_trans Z25 (Nat.le_of_eq W30.size.symm)
  have K30 : Keep h0 h30 [a0, av, al, ah, au, qa, qb, qc, qd] := K25.wr W30 (Or.inl (List.mem_of_getElem? (i := 4) rfl))
  have V30 : own_Ar Z h30 au 2048 (own_up uq k8 (own_n sz)) := own_arset (g := uq) (k := k8) Ar29 qk29 Sz29 Ng29 Hs29 Gs29 W30 (by decide) hk8
  have S31 : ∀ tz, oS p e below T30 (mkF m 159 #[rv a0, iv y1, iv y2, iv y3, iv 2047, iv (own_n k8), iv (own_n sz)] [(.int (own_n sz))]) tz → oS p e below s₁ (mkF m 0 #[rv a0, iv y1, iv y2, iv y3, .unset, .unset, .unset] []) tz := fun tz kz => S7 tz (by
    show oS p e below T6 (mkF m 43 #[rv a0, iv y1, iv y2, iv y3, iv 2047, iv ((own_n (own_us y1 y2 y3))), .unset] []) _
    refine st8 _ ?_
    show oS p e below T8 (mkF m 111 #[rv a0, iv y1, iv y2, iv y3, iv 2047, iv (own_n k8), z8] []) _
    refine XS.aloadN X8.here hx rfl (hb hby d6_111) rfl rfl ?_
    refine XS.dup X8.here hx rfl (hb hby d6_112) rfl rfl ?_
    refine st9 _ ?_
    refine XT.dupX1 X9.here hx rfl (hb hby d6_116) rfl rfl rfl ?_
    refine XT.iconstV X9.here hx rfl (1 : Int32) (hb hby d6_117) (by decide) ?_
    refine XS.iadd X9.here hx rfl (hb hby d6_118) rfl ?_
    show oS p e below T9 (mkF m 119 #[rv a0, iv y1, iv y2, iv y3, iv 2047, iv (own_n k8), z8] [(.int ((own_n sz) + (1 : Int32))), (.ref a0), (.int (own_n sz))]) _
    show oS p e below T9 (mkF m 119 #[rv a0, iv y1, iv y2, iv y3, iv 2047, iv (own_n k8), z8] [(.int ((own_n sz) + (1 : Int32))), (.ref a0), (.int (own_n sz))]) _
    rw [own_nadd (by omega)]
    show oS p e below T9 (mkF m 119 #[rv a0, iv y1, iv y2, iv y3, iv 2047, iv (own_n k8), z8] [(.int (own_n (sz + 1))), (.ref a0), (.int (own_n sz))]) _
    refine st10 _ ?_
    refine XS.istore X10.here hx rfl (hb hby d6_122) rfl (l' := #[rv a0, iv y1, iv y2, iv y3, iv 2047, iv (own_n k8), iv (own_n sz)]) (by rcases hz8 with z | ⟨y, z⟩ <;> subst z <;> rfl) ?_
    refine XS.aloadN X10.here hx rfl (hb hby d6_124) rfl rfl ?_
    refine st12 _ ?_
    refine XS.iload X12.here hx rfl (hb hby d6_128) rfl ?_
    refine XS.iloadN X12.here hx rfl (hb hby d6_130) rfl ?_
    refine st15 _ ?_
    refine XS.aloadN X15.here hx rfl (hb hby d6_132) rfl rfl ?_
    refine st17 _ ?_
    show oS p e below T17 (mkF m 136 #[rv a0, iv y1, iv y2, iv y3, iv 2047, iv (own_n k8), iv (own_n sz)] [(.ref al)]) _
    refine XS.iload X17.here hx rfl (hb hby d6_136) rfl ?_
    refine XS.iloadN X17.here hx rfl (hb hby d6_138) rfl ?_
    refine st20 _ ?_
    refine XS.aloadN X20.here hx rfl (hb hby d6_140) rfl rfl ?_
    refine st22 _ ?_
    refine XS.iload X22.here hx rfl (hb hby d6_144) rfl ?_
    refine XS.iloadN X22.here hx rfl (hb hby d6_146) rfl ?_
    refine st25 _ ?_
    refine XS.aloadN X25.here hx rfl (hb hby d6_148) rfl rfl ?_
    refine st27 _ ?_
    show oS p e below T27 (mkF m 152 #[rv a0, iv y1, iv y2, iv y3, iv 2047, iv (own_n k8), iv (own_n sz)] [(.ref au)]) _
    refine XS.iload X27.here hx rfl (hb hby d6_152) rfl ?_
    refine XS.iload X27.here hx rfl (hb hby d6_154) rfl ?_
    refine st30 _ ?_
    refine XS.iload X30.here hx rfl (hb hby d6_157) rfl ?_
    exact kz)
  obtain ⟨fs, hr, hrun, hended, hW, hsame⟩ := X30.leave (v := some (.int (own_n sz))) (fun h => by rw [Bd.returns] at h; cases h)
  refine ⟨_, _, pre0 _ (S31 _ ?_), hrun, hended, _, _, rfl, ?_, ⟨_, rfl⟩, hW, hsame.mono (by decide) (by decide)⟩
  · exact retI X30 hx Bd.returns (hb hby d6_159) hr
  have f32 := (((((hD.E.wr W10).wr W15).wr W20).wr W25).wr W30)
  have f33 := ((((f11.other W15 (Or.inl (own_nd hS.nd 0 1 (by decide) rfl rfl))).other W20 (Or.inl (own_nd hS.nd 0 2 (by decide) rfl rfl))).other W25 (Or.inl (own_nd hS.nd 0 3 (by decide) rfl rfl))).other W30 (Or.inl (own_nd hS.nd 0 4 (by decide) rfl rfl)))
  have f34 := (((f16.other W20 (Or.inl (own_nd hS.nd 0 2 (by decide) rfl rfl))).other W25 (Or.inl (own_nd hS.nd 0 3 (by decide) rfl rfl))).other W30 (Or.inl (own_nd hS.nd 0 4 (by decide) rfl rfl)))
  have f35 := ((f21.other W25 (Or.inl (own_nd hS.nd 0 3 (by decide) rfl rfl))).other W30 (Or.inl (own_nd hS.nd 0 4 (by decide) rfl rfl)))
  have f36 := (f26.other W30 (Or.inl (own_nd hS.nd 0 4 (by decide) rfl rfl)))
  have f37 := (((((hD.Fqa.other W10 (Or.inr (slot_ne (Or.inl (hw _ (own_w 29 rfl))) (Or.inl (hw _ (own_w 38 rfl))) (by decide) (t := (.array .int)) (t' := .int) (by decide) (by decide)))).other W15 (Or.inl (own_nd hS.nd 0 1 (by decide) rfl rfl))).other W20 (Or.inl (own_nd hS.nd 0 2 (by decide) rfl rfl))).other W25 (Or.inl (own_nd hS.nd 0 3 (by decide) rfl rfl))).other W30 (Or.inl (own_nd hS.nd 0 4 (by decide) rfl rfl)))
  have f38 := (((((hD.Fqb.other W10 (Or.inr (slot_ne (Or.inl (hw _ (own_w 31 rfl))) (Or.inl (hw _ (own_w 38 rfl))) (by decide) (t := (.array .int)) (t' := .int) (by decide) (by decide)))).other W15 (Or.inl (own_nd hS.nd 0 1 (by decide) rfl rfl))).other W20 (Or.inl (own_nd hS.nd 0 2 (by decide) rfl rfl))).other W25 (Or.inl (own_nd hS.nd 0 3 (by decide) rfl rfl))).other W30 (Or.inl (own_nd hS.nd 0 4 (by decide) rfl rfl)))
  have f39 := (((((hD.Fqc.other W10 (Or.inr (slot_ne (Or.inl (hw _ (own_w 33 rfl))) (Or.inl (hw _ (own_w 38 rfl))) (by decide) (t := (.array .int)) (t' := .int) (by decide) (by decide)))).other W15 (Or.inl (own_nd hS.nd 0 1 (by decide) rfl rfl))).other W20 (Or.inl (own_nd hS.nd 0 2 (by decide) rfl rfl))).other W25 (Or.inl (own_nd hS.nd 0 3 (by decide) rfl rfl))).other W30 (Or.inl (own_nd hS.nd 0 4 (by decide) rfl rfl)))
  have f40 := (((((hD.Fqd.other W10 (Or.inr (slot_ne (Or.inl (hw _ (own_w 35 rfl))) (Or.inl (hw _ (own_w 38 rfl))) (by decide) (t := (.array .int)) (t' := .int) (by decide) (by decide)))).other W15 (Or.inl (own_nd hS.nd 0 1 (by decide) rfl rfl))).other W20 (Or.inl (own_nd hS.nd 0 2 (by decide) rfl rfl))).other W25 (Or.inl (own_nd hS.nd 0 3 (by decide) rfl rfl))).other W30 (Or.inl (own_nd hS.nd 0 4 (by decide) rfl rfl)))
  have f41 := ((((Fw10.other W15 (Or.inl (own_nd hS.nd 0 1 (by decide) rfl rfl))).other W20 (Or.inl (own_nd hS.nd 0 2 (by decide) rfl rfl))).other W25 (Or.inl (own_nd hS.nd 0 3 (by decide) rfl rfl))).other W30 (Or.inl (own_nd hS.nd 0 4 (by decide) rfl rfl)))
  have f42 := (((V15.other W20 (own_nd hS.nd 1 2 (by decide) rfl rfl)).other W25 (own_nd hS.nd 1 3 (by decide) rfl rfl)).other W30 (own_nd hS.nd 1 4 (by decide) rfl rfl))
  have f43 := ((V20.other W25 (own_nd hS.nd 2 3 (by decide) rfl rfl)).other W30 (own_nd hS.nd 2 4 (by decide) rfl rfl))
  have f44 := (V25.other W30 (own_nd hS.nd 3 4 (by decide) rfl rfl))
  have f45 := (((((hD.Aqa.other W10 (Ne.symm (own_nd hS.nd 0 5 (by decide) rfl rfl))).other W15 (Ne.symm (own_nd hS.nd 1 5 (by decide) rfl rfl))).other W20 (Ne.symm (own_nd hS.nd 2 5 (by decide) rfl rfl))).other W25 (Ne.symm (own_nd hS.nd 3 5 (by decide) rfl rfl))).other W30 (Ne.symm (own_nd hS.nd 4 5 (by decide) rfl rfl)))
  have f46 := (((((hD.Aqb.other W10 (Ne.symm (own_nd hS.nd 0 6 (by decide) rfl rfl))).other W15 (Ne.symm (own_nd hS.nd 1 6 (by decide) rfl rfl))).other W20 (Ne.symm (own_nd hS.nd 2 6 (by decide) rfl rfl))).other W25 (Ne.symm (own_nd hS.nd 3 6 (by decide) rfl rfl))).other W30 (Ne.symm (own_nd hS.nd 4 6 (by decide) rfl rfl)))
  have f47 := (((((hD.Aqc.other W10 (Ne.symm (own_nd hS.nd 0 7 (by decide) rfl rfl))).other W15 (Ne.symm (own_nd hS.nd 1 7 (by decide) rfl rfl))).other W20 (Ne.symm (own_nd hS.nd 2 7 (by decide) rfl rfl))).other W25 (Ne.symm (own_nd hS.nd 3 7 (by decide) rfl rfl))).other W30 (Ne.symm (own_nd hS.nd 4 7 (by decide) rfl rfl)))
  have f48 := (((((hD.Aqd.other W10 (Ne.symm (own_nd hS.nd 0 8 (by decide) rfl rfl))).other W15 (Ne.symm (own_nd hS.nd 1 8 (by decide) rfl rfl))).other W20 (Ne.symm (own_nd hS.nd 2 8 (by decide) rfl rfl))).other W25 (Ne.symm (own_nd hS.nd 3 8 (by decide) rfl rfl))).other W30 (Ne.symm (own_nd hS.nd 4 8 (by decide) rfl rfl)))
  have D49 : own_Dia Z h30 a0 av al ah au qa qb qc qd (own_up vr sz y1) (own_up lw sz y2) (own_up hg sz y3) (own_up uq k8 (own_n sz)) c1 c2 c3 c4 (sz + 1) := own_Dia.mk f32 f33 f34 f35 f36 f37 f38 f39 f40 f41 f42 f43 f44 V30 f45 f46 f47 f48
  · show QrmNode Z a0 av al ah au qa qb qc qd vr lw hg uq c1 c2 c3 c4 sz y1 y2 y3 h0 n0 _ T30.heap _
    rw [e30]
    exact ⟨k8, hk8, rfl, N30, K30, hU.step htwo, D49⟩
theorem d5_0 : decode prog_72_method_2_code 0 = .ok (.iload_n 1, 1) := by decide +kernel
theorem d5_1 : decode prog_72_method_2_code 1 = .ok (.ifCond .lt 9, 3) := by decide +kernel
theorem d5_4 : decode prog_72_method_2_code 4 = .ok (.iload_n 1, 1) := by decide +kernel
theorem d5_5 : decode prog_72_method_2_code 5 = .ok (.ldc 40, 2) := by decide +kernel
theorem d5_7 : decode prog_72_method_2_code 7 = .ok (.if_icmp .ne 17, 3) := by decide +kernel
theorem d5_24 : decode prog_72_method_2_code 24 = .ok (.aload_n 0, 1) := by decide +kernel
theorem d5_25 : decode prog_72_method_2_code 25 = .ok (.iload_n 1, 1) := by decide +kernel
theorem d5_26 : decode prog_72_method_2_code 26 = .ok (.iconst 0, 1) := by decide +kernel
theorem d5_27 : decode prog_72_method_2_code 27 = .ok (.iconst 1, 1) := by decide +kernel
theorem d5_28 : decode prog_72_method_2_code 28 = .ok (.invokevirtual 54, 3) := by decide +kernel
theorem d5_31 : decode prog_72_method_2_code 31 = .ok (.ireturn, 1) := by decide +kernel
def QrmVar (Z : State) (a0 : Addr) (av : Addr) (al : Addr) (ah : Addr) (au : Addr) (qa : Addr) (qb : Addr) (qc : Addr) (qd : Addr) (vr : Nat → Int32) (lw : Nat → Int32) (hg : Nat → Int32) (uq : Nat → Int32) (c1 : Nat → Int32) (c2 : Nat → Int32) (c3 : Nat → Int32) (c4 : Nat → Int32) (sz : Nat) (y1 : Int32) (h0 : Heap) (n0 : Nat) (v : Option Value) (h : Heap) (L : List Loc) : Prop := ∃ k : Nat, k < 2048 ∧ v = some (.int (own_n sz)) ∧ Fr n0 L ∧ Keep h0 h [a0, av, al, ah, au, qa, qb, qc, qd] ∧ own_UI (own_up uq k (own_n sz)) (sz + 1) ∧ own_Dia Z h a0 av al ah au qa qb qc qd (own_up vr sz y1) (own_up lw sz (0 : Int32)) (own_up hg sz (1 : Int32)) (own_up uq k (own_n sz)) c1 c2 c3 c4 (sz + 1)
set_option maxRecDepth 65536 in
set_option maxHeartbeats 40000000 in
theorem rmVar (l : Launch) (Z : State) (av0 : Array Value) (hw : ∀ d ∈ tables_1, d.before av0 Z = true) (ws : List Jvm.Cond) (a0 : Addr) (av : Addr) (al : Addr) (ah : Addr) (au : Addr) (qa : Addr) (qb : Addr) (qc : Addr) (qd : Addr) (vr : Nat → Int32) (lw : Nat → Int32) (hg : Nat → Int32) (uq : Nat → Int32) (c1 : Nat → Int32) (c2 : Nat → Int32) (c3 : Nat → Int32) (c4 : Nat → Int32) (sz : Nat) (y1 : Int32) (h0 : Heap) (n0 : Nat) (Z0 : n0 ≤ h0.size) (hD : own_Dia Z h0 a0 av al ah au qa qb qc qd vr lw hg uq c1 c2 c3 c4 sz) (hS : own_Sep n0 [a0, av, al, ah, au, qa, qb, qc, qd]) (hU : own_UI uq sz) (htwo : 2 ≤ sz) (hsz : sz < 900) (hy0 : ¬ y1 < 0) (hyM : ¬ y1 = (2147483647 : Int32)) (hmis : ∀ n, 2 ≤ n → n < sz → ¬ (vr n = y1 ∧ lw n = (0 : Int32) ∧ hg n = (1 : Int32))) :
    own_Met l mN5 prog_72_method_2_code 2 (some .int) ws ({ frames := 2, cells := 0, slots := 0, locals := 33 } : Room) #[(.ref a0), (.int y1)] Z h0 (QrmVar Z a0 av al ah au qa qb qc qd vr lw hg uq c1 c2 c3 c4 sz y1 h0 n0) := by
  refine MetFree.of_bodySF (plainFor_of_name pn_DecisionDiagram) hisR ?_
  intro p e s m args below meth c s₁ Bd hml0 hP hK
  obtain ⟨rfl, hZ, hh⟩ := hP
  have hml : c.maxLocals = 2 := hml0
  obtain ⟨hx, hby, hown, hnm, X0, e0⟩ := own_start Bd hml0 hh
  have N0 := Fr.nil n0
  have pre0 : ∀ tz, oS p e below s₁ (mkF m 0 #[rv a0, iv y1] []) tz → Steps p.tables e below (s₁.setTop (entryFrame m #[(.ref a0), (.int y1)] 2)) tz := fun tz kz => castTop (by first | (simp [entryFrame, mkF, argsToLocals, Value.category]; done) | rfl) kz
  obtain ⟨_, T1, Lc1, X1, hQ1, st1⟩ := own_private (W := 0) (y := mN4) X0 hx hZ hown (hw _ (own_w 44 rfl)) (hw _ (own_w 4 rfl)) (hw _ (own_w 46 rfl)) (hw _ (own_w 45 rfl)) (hw _ (own_w 47 rfl)) (hw _ (own_w 5 rfl)) (by decide) (rmNode l Z av0 hw [] a0 av al ah au qa qb qc qd vr lw hg uq c1 c2 c3 c4 sz y1 (0 : Int32) (1 : Int32) h0 n0 Z0 hD hS hU htwo (by omega) (by decide) hmis) (by decide) (by decide) hD.E (g := (mkF m 28 #[rv a0, iv y1] [(.int 1), (.int 0), (.int y1), (.ref a0)])) rfl (by rw [hml]; rfl) (argsL := [(.int y1), (.int 0), (.int 1)]) (rest := []) (lenOf pd__III_I rfl) rfl (hb hby d5_28) rfl e0 (by decide : 0 + 0 ≤ _) (by decide : 0 + 0 ≤ _)
  obtain ⟨k1, hk1, rfl, N1q, K1, U1, D1⟩ := hQ1
  have N1 := Fr.app N0 N1q
  have e1 : T1.heap = T1.heap := rfl
  have Zk1 : n0 ≤ T1.heap.size := Nat.le_trans Z0 K1.1
  have Kk1 : Keep h0 T1.heap [a0, av, al, ah, au, qa, qb, qc, qd] := (Keep.refl h0 [a0, av, al, ah, au, qa, qb, qc, qd]).trans K1 (allS (Or.inl (List.mem_of_getElem? (i := 0) rfl)) (allS (Or.inl (List.mem_of_getElem? (i := 1) rfl)) (allS (Or.inl (List.mem_of_getElem? (i := 2) rfl)) (allS (Or.inl (List.mem_of_getElem? (i := 3) rfl)) (allS (Or.inl (List.mem_of_getElem? (i := 4) rfl)) (allS (Or.inl (List.mem_of_getElem? (i := 5) rfl)) (allS (Or.inl (List.mem_of_getElem? (i := 6) rfl)) (allS (Or.inl (List.mem_of_getElem? (i := 7) rfl)) (allS (Or.inl (List.mem_of_getElem? (i := 8) rfl)) all0)))))))))
  have S2 : ∀ tz, oS p e below T1 (mkF m 31 #[rv a0, iv y1] [(.int (own_n sz))]) tz → oS p e below s₁ (mkF m 0 #[rv a0, iv y1] []) tz := fun tz kz => id (by
    show oS p e below s₁ (mkF m 0 #[rv a0, iv y1] []) _
    refine XS.iloadN X0.here hx rfl (hb hby d5_0) rfl ?_
    refine XS.ifNo X0.here hx rfl (hb hby d5_1) rfl (XT.i0_lt_f hy0) ?_
    refine XS.iloadN X0.here hx rfl (hb hby d5_4) rfl ?_
    refine X0.ldcI hx hown (mvT hZ (hw _ (own_w 36 rfl))) rfl (hb hby d5_5) ?_
    refine XS.icmpYes X0.here hx rfl (pc0 := 7) (pc' := 24) rfl (hb hby d5_7) rfl (XT.ii_ne_t hyM) (by decide) (by decide) ?_
    refine XS.aloadN X0.here hx rfl (hb hby d5_24) rfl rfl ?_
    refine XS.iloadN X0.here hx rfl (hb hby d5_25) rfl ?_
    refine XT.iconstV X0.here hx rfl (0 : Int32) (hb hby d5_26) (by decide) ?_
    refine XT.iconstV X0.here hx rfl (1 : Int32) (hb hby d5_27) (by decide) ?_
    refine st1 _ ?_
    show oS p e below T1 (mkF m 31 #[rv a0, iv y1] [(.int (own_n sz))]) _
    exact kz)
  obtain ⟨fs, hr, hrun, hended, hW, hsame⟩ := X1.leave (v := some (.int (own_n sz))) (fun h => by rw [Bd.returns] at h; cases h)
  refine ⟨_, _, pre0 _ (S2 _ ?_), hrun, hended, _, _, rfl, ?_, ⟨_, rfl⟩, hW, hsame.mono (by decide) (by decide)⟩
  · exact retI X1 hx Bd.returns (hb hby d5_31) hr
  · show QrmVar Z a0 av al ah au qa qb qc qd vr lw hg uq c1 c2 c3 c4 sz y1 h0 n0 _ T1.heap _
    rw [e1]
    exact ⟨k1, hk1, rfl, N1, Kk1, U1, D1⟩
theorem d11_0 : decode prog_72_method_7_code 0 = .ok (.iload_n 1, 1) := by decide +kernel
theorem d11_1 : decode prog_72_method_7_code 1 = .ok (.iload_n 2, 1) := by decide +kernel
theorem d11_2 : decode prog_72_method_7_code 2 = .ok (.iload_n 3, 1) := by decide +kernel
theorem d11_3 : decode prog_72_method_7_code 3 = .ok (.invokestatic 106, 3) := by decide +kernel
theorem d11_6 : decode prog_72_method_7_code 6 = .ok (.aload_n 0, 1) := by decide +kernel
theorem d11_7 : decode prog_72_method_7_code 7 = .ok (.getfield 28, 3) := by decide +kernel
theorem d11_10 : decode prog_72_method_7_code 10 = .ok (.arraylength, 1) := by decide +kernel
theorem d11_11 : decode prog_72_method_7_code 11 = .ok (.iconst 1, 1) := by decide +kernel
theorem d11_12 : decode prog_72_method_7_code 12 = .ok (.isub, 1) := by decide +kernel
theorem d11_13 : decode prog_72_method_7_code 13 = .ok (.iand, 1) := by decide +kernel
theorem d11_14 : decode prog_72_method_7_code 14 = .ok (.ireturn, 1) := by decide +kernel
def QrmSlot (Z : State) (a0 : Addr) (av : Addr) (al : Addr) (ah : Addr) (au : Addr) (qa : Addr) (qb : Addr) (qc : Addr) (qd : Addr) (vr : Nat → Int32) (lw : Nat → Int32) (hg : Nat → Int32) (uq : Nat → Int32) (c1 : Nat → Int32) (c2 : Nat → Int32) (c3 : Nat → Int32) (c4 : Nat → Int32) (sz : Nat) (y1 : Int32) (y2 : Int32) (y3 : Int32) (h0 : Heap) (n0 : Nat) (v : Option Value) (h : Heap) (L : List Loc) : Prop := v = some (.int (own_n (own_cs y1 y2 y3))) ∧ Fr n0 L ∧ h = h0
set_option maxRecDepth 65536 in
set_option maxHeartbeats 40000000 in
theorem rmSlot (l : Launch) (Z : State) (av0 : Array Value) (hw : ∀ d ∈ tables_1, d.before av0 Z = true) (ws : List Jvm.Cond) (a0 : Addr) (av : Addr) (al : Addr) (ah : Addr) (au : Addr) (qa : Addr) (qb : Addr) (qc : Addr) (qd : Addr) (vr : Nat → Int32) (lw : Nat → Int32) (hg : Nat → Int32) (uq : Nat → Int32) (c1 : Nat → Int32) (c2 : Nat → Int32) (c3 : Nat → Int32) (c4 : Nat → Int32) (sz : Nat) (y1 : Int32) (y2 : Int32) (y3 : Int32) (h0 : Heap) (n0 : Nat) (Z0 : n0 ≤ h0.size) (hD : own_Dia Z h0 a0 av al ah au qa qb qc qd vr lw hg uq c1 c2 c3 c4 sz) :
    own_Met l mN6 prog_72_method_7_code 4 (some .int) ws ({ frames := 1, cells := 0, slots := 0, locals := 15 } : Room) #[(.ref a0), (.int y1), (.int y2), (.int y3)] Z h0 (QrmSlot Z a0 av al ah au qa qb qc qd vr lw hg uq c1 c2 c3 c4 sz y1 y2 y3 h0 n0) := by
  refine MetFree.of_bodySF (plainFor_of_name pn_DecisionDiagram) hisR ?_
  intro p e s m args below meth c s₁ Bd hml0 hP hK
  obtain ⟨rfl, hZ, hh⟩ := hP
  have hml : c.maxLocals = 4 := hml0
  obtain ⟨hx, hby, hown, hnm, X0, e0⟩ := own_start Bd hml0 hh
  have N0 := Fr.nil n0
  have pre0 : ∀ tz, oS p e below s₁ (mkF m 0 #[rv a0, iv y1, iv y2, iv y3] []) tz → Steps p.tables e below (s₁.setTop (entryFrame m #[(.ref a0), (.int y1), (.int y2), (.int y3)] 4)) tz := fun tz kz => castTop (by first | (simp [entryFrame, mkF, argsToLocals, Value.category]; done) | rfl) kz
  obtain ⟨_, T1, Lc1, X1, hQ1, st1⟩ := own_callS (W := 0) (y := mN3) X0 hx hZ hown (hw _ (own_w 48 rfl)) (hw _ (own_w 49 rfl)) (hw _ (own_w 5 rfl)) (hw _ (own_w 50 rfl)) (by decide) (rmMix l Z av0 hw [] y1 y2 y3 h0 n0 Z0 ) (by decide) (by decide) (g := (mkF m 3 #[rv a0, iv y1, iv y2, iv y3] [(.int y3), (.int y2), (.int y1)])) rfl (by rw [hml]; rfl) (argsL := [(.int y1), (.int y2), (.int y3)]) (rest := []) (lenOf pd__III_I rfl) rfl (hb hby d11_3) rfl e0 (by decide : 0 + 0 ≤ _) (by decide : 0 + 0 ≤ _)
  obtain ⟨rfl, N1q, hh1⟩ := hQ1
  have N1 := Fr.app N0 N1q
  have e1 : T1.heap = h0 := hh1
  obtain ⟨T2, X2, e2, st2⟩ := getF X1 hx hZ hown (host := "") (Or.inl (hw _ (own_w 28 rfl))) Via.refl e1 hD.Fqa (g := (mkF m 7 #[rv a0, iv y1, iv y2, iv y3] [(.ref a0), (.int (own_mix y1 y2 y3))])) rfl rfl (hb hby d11_7)
  obtain ⟨kc3, cl3, Ar3, qk3, Sz3, Ng3, Hs3, Gs3⟩ := id hD.Aqa
  have S4 : ∀ tz, oS p e below T2 (mkF m 14 #[rv a0, iv y1, iv y2, iv y3] [(.int (own_n (own_cs y1 y2 y3)))]) tz → oS p e below s₁ (mkF m 0 #[rv a0, iv y1, iv y2, iv y3] []) tz := fun tz kz => id (by
    show oS p e below s₁ (mkF m 0 #[rv a0, iv y1, iv y2, iv y3] []) _
    refine XS.iloadN X0.here hx rfl (hb hby d11_0) rfl ?_
    refine XS.iloadN X0.here hx rfl (hb hby d11_1) rfl ?_
    refine XS.iloadN X0.here hx rfl (hb hby d11_2) rfl ?_
    refine st1 _ ?_
    refine XS.aloadN X1.here hx rfl (hb hby d11_6) rfl rfl ?_
    refine st2 _ ?_
    refine X2.arraylength hx (by rw [e2]; exact Ar3.1) (State.isArrayOf_alike hZ.alike Ar3.2.1) (g := (mkF m 10 #[rv a0, iv y1, iv y2, iv y3] [(.ref qa), (.int (own_mix y1 y2 y3))])) rfl rfl (hb hby d11_10) _ ?_
    rw [len_of Sz3 Ng3]
    refine XT.iconstV X2.here hx rfl (1 : Int32) (hb hby d11_11) (by decide) ?_
    refine XS.isub X2.here hx rfl (hb hby d11_12) rfl ?_
    refine XS.iand X2.here hx rfl (hb hby d11_13) rfl ?_
    show oS p e below T2 (mkF m 14 #[rv a0, iv y1, iv y2, iv y3] [(.int ((own_mix y1 y2 y3) &&& (1023 : Int32)))]) _
    show oS p e below T2 (mkF m 14 #[rv a0, iv y1, iv y2, iv y3] [(.int ((own_mix y1 y2 y3) &&& (1023 : Int32)))]) _
    rw [own_cse]
    show oS p e below T2 (mkF m 14 #[rv a0, iv y1, iv y2, iv y3] [(.int (own_n (own_cs y1 y2 y3)))]) _
    exact kz)
  obtain ⟨fs, hr, hrun, hended, hW, hsame⟩ := X2.leave (v := some (.int (own_n (own_cs y1 y2 y3)))) (fun h => by rw [Bd.returns] at h; cases h)
  refine ⟨_, _, pre0 _ (S4 _ ?_), hrun, hended, _, _, rfl, ?_, ⟨_, rfl⟩, hW, hsame.mono (by decide) (by decide)⟩
  · exact retI X2 hx Bd.returns (hb hby d11_14) hr
  · show QrmSlot Z a0 av al ah au qa qb qc qd vr lw hg uq c1 c2 c3 c4 sz y1 y2 y3 h0 n0 _ T2.heap _
    rw [e2]
    exact ⟨rfl, N1, rfl⟩
def own_KP (y1 y2 y3 yr : Int32) : Prop := (y1 = 1 → yr = y2) ∧ (y2 = y3 → yr = y2) ∧ (¬ y1 = 1 → ¬ y2 = y3 → y1 = 0 → yr = y3) ∧ (¬ y1 = 1 → ¬ y2 = y3 → ¬ y1 = 0 → y2 = 1 ∧ y3 = 0 ∧ yr = y1)
theorem own_kp1 (y2 y3 : Int32) : own_KP 1 y2 y3 y2 := ⟨fun _ => rfl, fun _ => rfl, fun h => absurd rfl h, fun h => absurd rfl h⟩
theorem own_kp0 (y2 y3 : Int32) (h : ¬ y2 = y3) : own_KP 0 y2 y3 y3 := ⟨fun q => absurd q (by decide), fun q => absurd q h, fun _ _ _ => rfl, fun _ _ q => absurd rfl q⟩
theorem own_kpe (y1 y2 : Int32) : own_KP y1 y2 y2 y2 := ⟨fun _ => rfl, fun _ => rfl, fun _ q => absurd rfl q, fun _ q => absurd rfl q⟩
theorem own_kpf {y1 : Int32} (h1 : ¬ y1 = 1) (h0 : ¬ y1 = 0) : own_KP y1 1 0 y1 := ⟨fun q => absurd q h1, fun q => absurd q (by decide), fun _ _ q => absurd q h0, fun _ _ _ => ⟨rfl, rfl, rfl⟩⟩
theorem d10_0 : decode prog_72_method_5_code 0 = .ok (.iload_n 1, 1) := by decide +kernel
theorem d10_1 : decode prog_72_method_5_code 1 = .ok (.iconst 1, 1) := by decide +kernel
theorem d10_2 : decode prog_72_method_5_code 2 = .ok (.if_icmp .eq 8, 3) := by decide +kernel
theorem d10_5 : decode prog_72_method_5_code 5 = .ok (.iload_n 2, 1) := by decide +kernel
theorem d10_6 : decode prog_72_method_5_code 6 = .ok (.iload_n 3, 1) := by decide +kernel
theorem d10_7 : decode prog_72_method_5_code 7 = .ok (.if_icmp .ne 9, 3) := by decide +kernel
theorem d10_10 : decode prog_72_method_5_code 10 = .ok (.iload_n 2, 1) := by decide +kernel
theorem d10_11 : decode prog_72_method_5_code 11 = .ok (.istore 4, 2) := by decide +kernel
theorem d10_13 : decode prog_72_method_5_code 13 = .ok (.goto 95, 3) := by decide +kernel
theorem d10_16 : decode prog_72_method_5_code 16 = .ok (.iload_n 1, 1) := by decide +kernel
theorem d10_17 : decode prog_72_method_5_code 17 = .ok (.ifCond .ne 9, 3) := by decide +kernel
theorem d10_20 : decode prog_72_method_5_code 20 = .ok (.iload_n 3, 1) := by decide +kernel
theorem d10_21 : decode prog_72_method_5_code 21 = .ok (.istore 4, 2) := by decide +kernel
theorem d10_23 : decode prog_72_method_5_code 23 = .ok (.goto 85, 3) := by decide +kernel
theorem d10_26 : decode prog_72_method_5_code 26 = .ok (.iload_n 2, 1) := by decide +kernel
theorem d10_27 : decode prog_72_method_5_code 27 = .ok (.iconst 1, 1) := by decide +kernel
theorem d10_28 : decode prog_72_method_5_code 28 = .ok (.if_icmp .ne 13, 3) := by decide +kernel
theorem d10_31 : decode prog_72_method_5_code 31 = .ok (.iload_n 3, 1) := by decide +kernel
theorem d10_32 : decode prog_72_method_5_code 32 = .ok (.ifCond .ne 9, 3) := by decide +kernel
theorem d10_35 : decode prog_72_method_5_code 35 = .ok (.iload_n 1, 1) := by decide +kernel
theorem d10_36 : decode prog_72_method_5_code 36 = .ok (.istore 4, 2) := by decide +kernel
theorem d10_38 : decode prog_72_method_5_code 38 = .ok (.goto 70, 3) := by decide +kernel
theorem d10_108 : decode prog_72_method_5_code 108 = .ok (.iload 4, 2) := by decide +kernel
theorem d10_110 : decode prog_72_method_5_code 110 = .ok (.ireturn, 1) := by decide +kernel
def QrmKP (Z : State) (a0 : Addr) (y1 : Int32) (y2 : Int32) (y3 : Int32) (yr : Int32) (h0 : Heap) (n0 : Nat) (v : Option Value) (h : Heap) (L : List Loc) : Prop := v = some (.int yr) ∧ Fr n0 L ∧ h = h0
set_option maxRecDepth 65536 in
set_option maxHeartbeats 40000000 in
theorem rmKP (l : Launch) (Z : State) (av0 : Array Value) (hw : ∀ d ∈ tables_1, d.before av0 Z = true) (ws : List Jvm.Cond) (a0 : Addr) (y1 : Int32) (y2 : Int32) (y3 : Int32) (yr : Int32) (h0 : Heap) (n0 : Nat) (Z0 : n0 ≤ h0.size) (hKP : own_KP y1 y2 y3 yr) :
    own_Met l mN7 prog_72_method_5_code 7 (some .int) ws ({ frames := 0, cells := 0, slots := 0, locals := 0 } : Room) #[(.ref a0), (.int y1), (.int y2), (.int y3)] Z h0 (QrmKP Z a0 y1 y2 y3 yr h0 n0) := by
  refine MetFree.of_bodySF (plainFor_of_name pn_DecisionDiagram) hisR ?_
  intro p e s m args below meth c s₁ Bd hml0 hP hK
  obtain ⟨rfl, hZ, hh⟩ := hP
  have hml : c.maxLocals = 7 := hml0
  obtain ⟨hx, hby, hown, hnm, X0, e0⟩ := own_start Bd hml0 hh
  have N0 := Fr.nil n0
  have pre0 : ∀ tz, oS p e below s₁ (mkF m 0 #[rv a0, iv y1, iv y2, iv y3, .unset, .unset, .unset] []) tz → Steps p.tables e below (s₁.setTop (entryFrame m #[(.ref a0), (.int y1), (.int y2), (.int y3)] 7)) tz := fun tz kz => castTop (by first | (simp [entryFrame, mkF, argsToLocals, Value.category]; done) | rfl) kz
  have S1 : ∀ tz, oS p e below s₁ (mkF m 2 #[rv a0, iv y1, iv y2, iv y3, .unset, .unset, .unset] [(.int 1), (.int y1)]) tz → oS p e below s₁ (mkF m 0 #[rv a0, iv y1, iv y2, iv y3, .unset, .unset, .unset] []) tz := fun tz kz => id (by
    show oS p e below s₁ (mkF m 0 #[rv a0, iv y1, iv y2, iv y3, .unset, .unset, .unset] []) _
    refine XS.iloadN X0.here hx rfl (hb hby d10_0) rfl ?_
    refine XT.iconstV X0.here hx rfl (1 : Int32) (hb hby d10_1) (by decide) ?_
    exact kz)
  by_cases hc2_2 : y1 = (1 : Int32)
  · have S3 : ∀ tz, oS p e below s₁ (mkF m 110 #[rv a0, iv y1, iv y2, iv y3, iv y2, .unset, .unset] [(.int y2)]) tz → oS p e below s₁ (mkF m 0 #[rv a0, iv y1, iv y2, iv y3, .unset, .unset, .unset] []) tz := fun tz kz => S1 tz (by
      show oS p e below s₁ (mkF m 2 #[rv a0, iv y1, iv y2, iv y3, .unset, .unset, .unset] [(.int 1), (.int y1)]) _
      refine XS.icmpYes X0.here hx rfl (pc0 := 2) (pc' := 10) rfl (hb hby d10_2) rfl (XT.ii_eq_t hc2_2) (by decide) (by decide) ?_
      refine XS.iloadN X0.here hx rfl (hb hby d10_10) rfl ?_
      refine XS.istore X0.here hx rfl (hb hby d10_11) rfl (l' := #[rv a0, iv y1, iv y2, iv y3, iv y2, .unset, .unset]) rfl ?_
      refine XS.goto X0.here hx rfl (pc0 := 13) (pc' := 108) rfl (hb hby d10_13) (by decide) (by decide) ?_
      refine XS.iload X0.here hx rfl (hb hby d10_108) rfl ?_
      exact kz)
    obtain ⟨fs, hr, hrun, hended, hW, hsame⟩ := X0.leave (v := some (.int y2)) (fun h => by rw [Bd.returns] at h; cases h)
    refine ⟨_, _, pre0 _ (S3 _ ?_), hrun, hended, _, _, rfl, ?_, ⟨_, rfl⟩, hW, hsame.mono (by decide) (by decide)⟩
    · exact retI X0 hx Bd.returns (hb hby d10_110) hr
    · show QrmKP Z a0 y1 y2 y3 yr h0 n0 _ s₁.heap _
      rw [e0]
      exact ⟨congrArg (fun z => some (Value.int z)) (hKP.1 hc2_2).symm, N0, rfl⟩
  · have S4 : ∀ tz, oS p e below s₁ (mkF m 7 #[rv a0, iv y1, iv y2, iv y3, .unset, .unset, .unset] [(.int y3), (.int y2)]) tz → oS p e below s₁ (mkF m 0 #[rv a0, iv y1, iv y2, iv y3, .unset, .unset, .unset] []) tz := fun tz kz => S1 tz (by
      show oS p e below s₁ (mkF m 2 #[rv a0, iv y1, iv y2, iv y3, .unset, .unset, .unset] [(.int 1), (.int y1)]) _
      refine XS.icmpNo X0.here hx rfl (hb hby d10_2) rfl (XT.ii_eq_f hc2_2) ?_
      refine XS.iloadN X0.here hx rfl (hb hby d10_5) rfl ?_
      refine XS.iloadN X0.here hx rfl (hb hby d10_6) rfl ?_
      exact kz)
    by_cases hc7_5 : y2 = y3
    · have S6 : ∀ tz, oS p e below s₁ (mkF m 110 #[rv a0, iv y1, iv y2, iv y3, iv y2, .unset, .unset] [(.int y2)]) tz → oS p e below s₁ (mkF m 0 #[rv a0, iv y1, iv y2, iv y3, .unset, .unset, .unset] []) tz := fun tz kz => S4 tz (by
        show oS p e below s₁ (mkF m 7 #[rv a0, iv y1, iv y2, iv y3, .unset, .unset, .unset] [(.int y3), (.int y2)]) _
        refine XS.icmpNo X0.here hx rfl (hb hby d10_7) rfl (XT.ii_ne_f hc7_5) ?_
        refine XS.iloadN X0.here hx rfl (hb hby d10_10) rfl ?_
        refine XS.istore X0.here hx rfl (hb hby d10_11) rfl (l' := #[rv a0, iv y1, iv y2, iv y3, iv y2, .unset, .unset]) rfl ?_
        refine XS.goto X0.here hx rfl (pc0 := 13) (pc' := 108) rfl (hb hby d10_13) (by decide) (by decide) ?_
        refine XS.iload X0.here hx rfl (hb hby d10_108) rfl ?_
        show oS p e below s₁ (mkF m 110 #[rv a0, iv y1, iv y2, iv y3, iv y2, .unset, .unset] [(.int y2)]) _
        exact kz)
      obtain ⟨fs, hr, hrun, hended, hW, hsame⟩ := X0.leave (v := some (.int y2)) (fun h => by rw [Bd.returns] at h; cases h)
      refine ⟨_, _, pre0 _ (S6 _ ?_), hrun, hended, _, _, rfl, ?_, ⟨_, rfl⟩, hW, hsame.mono (by decide) (by decide)⟩
      · exact retI X0 hx Bd.returns (hb hby d10_110) hr
      · show QrmKP Z a0 y1 y2 y3 yr h0 n0 _ s₁.heap _
        rw [e0]
        exact ⟨congrArg (fun z => some (Value.int z)) (hKP.2.1 hc7_5).symm, N0, rfl⟩
    · have S7 : ∀ tz, oS p e below s₁ (mkF m 17 #[rv a0, iv y1, iv y2, iv y3, .unset, .unset, .unset] [(.int y1)]) tz → oS p e below s₁ (mkF m 0 #[rv a0, iv y1, iv y2, iv y3, .unset, .unset, .unset] []) tz := fun tz kz => S4 tz (by
        show oS p e below s₁ (mkF m 7 #[rv a0, iv y1, iv y2, iv y3, .unset, .unset, .unset] [(.int y3), (.int y2)]) _
        refine XS.icmpYes X0.here hx rfl (pc0 := 7) (pc' := 16) rfl (hb hby d10_7) rfl (XT.ii_ne_t hc7_5) (by decide) (by decide) ?_
        refine XS.iloadN X0.here hx rfl (hb hby d10_16) rfl ?_
        exact kz)
      by_cases hc17_8 : y1 = (0 : Int32)
      · have S9 : ∀ tz, oS p e below s₁ (mkF m 110 #[rv a0, iv y1, iv y2, iv y3, iv y3, .unset, .unset] [(.int y3)]) tz → oS p e below s₁ (mkF m 0 #[rv a0, iv y1, iv y2, iv y3, .unset, .unset, .unset] []) tz := fun tz kz => S7 tz (by
          show oS p e below s₁ (mkF m 17 #[rv a0, iv y1, iv y2, iv y3, .unset, .unset, .unset] [(.int y1)]) _
          refine XS.ifNo X0.here hx rfl (hb hby d10_17) rfl (XT.i0_ne_f hc17_8) ?_
          refine XS.iloadN X0.here hx rfl (hb hby d10_20) rfl ?_
          refine XS.istore X0.here hx rfl (hb hby d10_21) rfl (l' := #[rv a0, iv y1, iv y2, iv y3, iv y3, .unset, .unset]) rfl ?_
          show oS p e below s₁ (mkF m 23 #[rv a0, iv y1, iv y2, iv y3, iv y3, .unset, .unset] []) _
          refine XS.goto X0.here hx rfl (pc0 := 23) (pc' := 108) rfl (hb hby d10_23) (by decide) (by decide) ?_
          refine XS.iload X0.here hx rfl (hb hby d10_108) rfl ?_
          exact kz)
        obtain ⟨fs, hr, hrun, hended, hW, hsame⟩ := X0.leave (v := some (.int y3)) (fun h => by rw [Bd.returns] at h; cases h)
        refine ⟨_, _, pre0 _ (S9 _ ?_), hrun, hended, _, _, rfl, ?_, ⟨_, rfl⟩, hW, hsame.mono (by decide) (by decide)⟩
        · exact retI X0 hx Bd.returns (hb hby d10_110) hr
        · show QrmKP Z a0 y1 y2 y3 yr h0 n0 _ s₁.heap _
          rw [e0]
          exact ⟨congrArg (fun z => some (Value.int z)) (hKP.2.2.1 hc2_2 hc7_5 hc17_8).symm, N0, rfl⟩
      · have S10 : ∀ tz, oS p e below s₁ (mkF m 110 #[rv a0, iv y1, iv y2, iv y3, iv y1, .unset, .unset] [(.int y1)]) tz → oS p e below s₁ (mkF m 0 #[rv a0, iv y1, iv y2, iv y3, .unset, .unset, .unset] []) tz := fun tz kz => S7 tz (by
          show oS p e below s₁ (mkF m 17 #[rv a0, iv y1, iv y2, iv y3, .unset, .unset, .unset] [(.int y1)]) _
          refine XS.ifYes X0.here hx rfl (pc0 := 17) (pc' := 26) rfl (hb hby d10_17) rfl (XT.i0_ne_t hc17_8) (by decide) (by decide) ?_
          refine XS.iloadN X0.here hx rfl (hb hby d10_26) rfl ?_
          refine XT.iconstV X0.here hx rfl (1 : Int32) (hb hby d10_27) (by decide) ?_
          show oS p e below s₁ (mkF m 28 #[rv a0, iv y1, iv y2, iv y3, .unset, .unset, .unset] [(.int 1), (.int y2)]) _
          refine XS.icmpNo X0.here hx rfl (hb hby d10_28) rfl (XT.ii_ne_f (hKP.2.2.2 hc2_2 hc7_5 hc17_8).1) ?_
          refine XS.iloadN X0.here hx rfl (hb hby d10_31) rfl ?_
          refine XS.ifNo X0.here hx rfl (hb hby d10_32) rfl (XT.i0_ne_f (hKP.2.2.2 hc2_2 hc7_5 hc17_8).2.1) ?_
          refine XS.iloadN X0.here hx rfl (hb hby d10_35) rfl ?_
          refine XS.istore X0.here hx rfl (hb hby d10_36) rfl (l' := #[rv a0, iv y1, iv y2, iv y3, iv y1, .unset, .unset]) rfl ?_
          refine XS.goto X0.here hx rfl (pc0 := 38) (pc' := 108) rfl (hb hby d10_38) (by decide) (by decide) ?_
          refine XS.iload X0.here hx rfl (hb hby d10_108) rfl ?_
          exact kz)
        obtain ⟨fs, hr, hrun, hended, hW, hsame⟩ := X0.leave (v := some (.int y1)) (fun h => by rw [Bd.returns] at h; cases h)
        refine ⟨_, _, pre0 _ (S10 _ ?_), hrun, hended, _, _, rfl, ?_, ⟨_, rfl⟩, hW, hsame.mono (by decide) (by decide)⟩
        · exact retI X0 hx Bd.returns (hb hby d10_110) hr
        · show QrmKP Z a0 y1 y2 y3 yr h0 n0 _ s₁.heap _
          rw [e0]
          exact ⟨congrArg (fun z => some (Value.int z)) (hKP.2.2.2 hc2_2 hc7_5 hc17_8).2.2.symm, N0, rfl⟩
theorem d10_41 : decode prog_72_method_5_code 41 = .ok (.aload_n 0, 1) := by decide +kernel
theorem d10_42 : decode prog_72_method_5_code 42 = .ok (.iload_n 1, 1) := by decide +kernel
theorem d10_43 : decode prog_72_method_5_code 43 = .ok (.iload_n 2, 1) := by decide +kernel
theorem d10_44 : decode prog_72_method_5_code 44 = .ok (.iload_n 3, 1) := by decide +kernel
theorem d10_45 : decode prog_72_method_5_code 45 = .ok (.invokevirtual 103, 3) := by decide +kernel
theorem d10_48 : decode prog_72_method_5_code 48 = .ok (.istore 5, 2) := by decide +kernel
theorem d10_50 : decode prog_72_method_5_code 50 = .ok (.aload_n 0, 1) := by decide +kernel
theorem d10_51 : decode prog_72_method_5_code 51 = .ok (.getfield 28, 3) := by decide +kernel
theorem d10_54 : decode prog_72_method_5_code 54 = .ok (.iload 5, 2) := by decide +kernel
theorem d10_56 : decode prog_72_method_5_code 56 = .ok (.iaload, 1) := by decide +kernel
theorem d10_57 : decode prog_72_method_5_code 57 = .ok (.iload_n 1, 1) := by decide +kernel
theorem d10_58 : decode prog_72_method_5_code 58 = .ok (.if_icmp .ne 29, 3) := by decide +kernel
theorem d10_87 : decode prog_72_method_5_code 87 = .ok (.iconst 0, 1) := by decide +kernel
theorem d10_88 : decode prog_72_method_5_code 88 = .ok (.istore 6, 2) := by decide +kernel
theorem d10_90 : decode prog_72_method_5_code 90 = .ok (.iload 6, 2) := by decide +kernel
theorem d10_92 : decode prog_72_method_5_code 92 = .ok (.ifCond .eq 13, 3) := by decide +kernel
theorem d10_105 : decode prog_72_method_5_code 105 = .ok (.iconst (-1), 1) := by decide +kernel
theorem d10_106 : decode prog_72_method_5_code 106 = .ok (.istore 4, 2) := by decide +kernel
def QrmKM (Z : State) (a0 : Addr) (av : Addr) (al : Addr) (ah : Addr) (au : Addr) (qa : Addr) (qb : Addr) (qc : Addr) (qd : Addr) (vr : Nat → Int32) (lw : Nat → Int32) (hg : Nat → Int32) (uq : Nat → Int32) (c1 : Nat → Int32) (c2 : Nat → Int32) (c3 : Nat → Int32) (c4 : Nat → Int32) (sz : Nat) (y1 : Int32) (y2 : Int32) (y3 : Int32) (h0 : Heap) (n0 : Nat) (v : Option Value) (h : Heap) (L : List Loc) : Prop := v = some (.int (-1 : Int32)) ∧ Fr n0 L ∧ h = h0
set_option maxRecDepth 65536 in
set_option maxHeartbeats 40000000 in
theorem rmKM (l : Launch) (Z : State) (av0 : Array Value) (hw : ∀ d ∈ tables_1, d.before av0 Z = true) (ws : List Jvm.Cond) (a0 : Addr) (av : Addr) (al : Addr) (ah : Addr) (au : Addr) (qa : Addr) (qb : Addr) (qc : Addr) (qd : Addr) (vr : Nat → Int32) (lw : Nat → Int32) (hg : Nat → Int32) (uq : Nat → Int32) (c1 : Nat → Int32) (c2 : Nat → Int32) (c3 : Nat → Int32) (c4 : Nat → Int32) (sz : Nat) (y1 : Int32) (y2 : Int32) (y3 : Int32) (h0 : Heap) (n0 : Nat) (Z0 : n0 ≤ h0.size) (hD : own_Dia Z h0 a0 av al ah au qa qb qc qd vr lw hg uq c1 c2 c3 c4 sz) (n1 : ¬ y1 = 1) (n23 : ¬ y2 = y3) (n0' : ¬ y1 = 0) (n10 : ¬ (y2 = 1 ∧ y3 = 0)) (hm : ¬ c1 (own_cs y1 y2 y3) = y1) :
    own_Met l mN7 prog_72_method_5_code 7 (some .int) ws ({ frames := 2, cells := 0, slots := 0, locals := 30 } : Room) #[(.ref a0), (.int y1), (.int y2), (.int y3)] Z h0 (QrmKM Z a0 av al ah au qa qb qc qd vr lw hg uq c1 c2 c3 c4 sz y1 y2 y3 h0 n0) := by
  refine MetFree.of_bodySF (plainFor_of_name pn_DecisionDiagram) hisR ?_
  intro p e s m args below meth c s₁ Bd hml0 hP hK
  obtain ⟨rfl, hZ, hh⟩ := hP
  have hml : c.maxLocals = 7 := hml0
  obtain ⟨hx, hby, hown, hnm, X0, e0⟩ := own_start Bd hml0 hh
  have N0 := Fr.nil n0
  have pre0 : ∀ tz, oS p e below s₁ (mkF m 0 #[rv a0, iv y1, iv y2, iv y3, .unset, .unset, .unset] []) tz → Steps p.tables e below (s₁.setTop (entryFrame m #[(.ref a0), (.int y1), (.int y2), (.int y3)] 7)) tz := fun tz kz => castTop (by first | (simp [entryFrame, mkF, argsToLocals, Value.category]; done) | rfl) kz
  have S1 : ∀ tz, oS p e below s₁ (mkF m 28 #[rv a0, iv y1, iv y2, iv y3, .unset, .unset, .unset] [(.int 1), (.int y2)]) tz → oS p e below s₁ (mkF m 0 #[rv a0, iv y1, iv y2, iv y3, .unset, .unset, .unset] []) tz := fun tz kz => id (by
    show oS p e below s₁ (mkF m 0 #[rv a0, iv y1, iv y2, iv y3, .unset, .unset, .unset] []) _
    refine XS.iloadN X0.here hx rfl (hb hby d10_0) rfl ?_
    refine XT.iconstV X0.here hx rfl (1 : Int32) (hb hby d10_1) (by decide) ?_
    refine XS.icmpNo X0.here hx rfl (hb hby d10_2) rfl (XT.ii_eq_f n1) ?_
    refine XS.iloadN X0.here hx rfl (hb hby d10_5) rfl ?_
    refine XS.iloadN X0.here hx rfl (hb hby d10_6) rfl ?_
    refine XS.icmpYes X0.here hx rfl (pc0 := 7) (pc' := 16) rfl (hb hby d10_7) rfl (XT.ii_ne_t n23) (by decide) (by decide) ?_
    refine XS.iloadN X0.here hx rfl (hb hby d10_16) rfl ?_
    refine XS.ifYes X0.here hx rfl (pc0 := 17) (pc' := 26) rfl (hb hby d10_17) rfl (XT.i0_ne_t n0') (by decide) (by decide) ?_
    refine XS.iloadN X0.here hx rfl (hb hby d10_26) rfl ?_
    refine XT.iconstV X0.here hx rfl (1 : Int32) (hb hby d10_27) (by decide) ?_
    show oS p e below s₁ (mkF m 28 #[rv a0, iv y1, iv y2, iv y3, .unset, .unset, .unset] [(.int 1), (.int y2)]) _
    exact kz)
  by_cases hc28_2 : y2 = (1 : Int32)
  · obtain ⟨_, T3, Lc3, X3, hQ3, st3⟩ := own_private (W := 0) (y := mN6) X0 hx hZ hown (hw _ (own_w 66 rfl)) (hw _ (own_w 4 rfl)) (hw _ (own_w 68 rfl)) (hw _ (own_w 67 rfl)) (hw _ (own_w 69 rfl)) (hw _ (own_w 5 rfl)) (by decide) (rmSlot l Z av0 hw [] a0 av al ah au qa qb qc qd vr lw hg uq c1 c2 c3 c4 sz y1 y2 y3 h0 n0 Z0 hD) (by decide) (by decide) hD.E (g := (mkF m 45 #[rv a0, iv y1, iv y2, iv y3, .unset, .unset, .unset] [(.int y3), (.int y2), (.int y1), (.ref a0)])) rfl (by rw [hml]; rfl) (argsL := [(.int y1), (.int y2), (.int y3)]) (rest := []) (lenOf pd__III_I rfl) rfl (hb hby d10_45) rfl e0 (by decide : 0 + 0 ≤ _) (by decide : 0 + 0 ≤ _)
    obtain ⟨rfl, N3q, hh3⟩ := hQ3
    have N3 := Fr.app N0 N3q
    have e3 : T3.heap = h0 := hh3
    obtain ⟨T4, X4, e4, st4⟩ := getF X3 hx hZ hown (host := "") (Or.inl (hw _ (own_w 28 rfl))) Via.refl e3 hD.Fqa (g := (mkF m 51 #[rv a0, iv y1, iv y2, iv y3, .unset, iv ((own_n (own_cs y1 y2 y3))), .unset] [(.ref a0)])) rfl rfl (hb hby d10_51)
    obtain ⟨kc5, cl5, Ar5, qk5, Sz5, Ng5, Hs5, Gs5⟩ := id hD.Aqa
    have hin5 : ¬ ((own_n (own_cs y1 y2 y3)) < 0 ∨ cl5.slots.size ≤ ((own_n (own_cs y1 y2 y3))).toNatClampNeg) := own_inb (n := 1024) (k := (own_cs y1 y2 y3)) Sz5 (by decide) (own_csl _ _ _)
    have hat5 : cl5.slots[((own_n (own_cs y1 y2 y3))).toNatClampNeg]? = some (.int (c1 (own_cs y1 y2 y3))) := own_at (n := 1024) (k := (own_cs y1 y2 y3)) (g := c1) Hs5 Sz5 (by decide) (own_csl _ _ _) rfl
    have S6 : ∀ tz, oS p e below T4 (mkF m 110 #[rv a0, iv y1, iv y2, iv y3, iv (-1 : Int32), iv ((own_n (own_cs y1 y2 y3))), iv 0] [(.int (-1))]) tz → oS p e below s₁ (mkF m 0 #[rv a0, iv y1, iv y2, iv y3, .unset, .unset, .unset] []) tz := fun tz kz => S1 tz (by
      show oS p e below s₁ (mkF m 28 #[rv a0, iv y1, iv y2, iv y3, .unset, .unset, .unset] [(.int 1), (.int y2)]) _
      refine XS.icmpNo X0.here hx rfl (hb hby d10_28) rfl (XT.ii_ne_f hc28_2) ?_
      refine XS.iloadN X0.here hx rfl (hb hby d10_31) rfl ?_
      refine XS.ifYes X0.here hx rfl (pc0 := 32) (pc' := 41) rfl (hb hby d10_32) rfl (XT.i0_ne_t (fun q => n10 ⟨hc28_2, q⟩)) (by decide) (by decide) ?_
      refine XS.aloadN X0.here hx rfl (hb hby d10_41) rfl rfl ?_
      refine XS.iloadN X0.here hx rfl (hb hby d10_42) rfl ?_
      refine XS.iloadN X0.here hx rfl (hb hby d10_43) rfl ?_
      refine XS.iloadN X0.here hx rfl (hb hby d10_44) rfl ?_
      refine st3 _ ?_
      refine XS.istore X3.here hx rfl (hb hby d10_48) rfl (l' := #[rv a0, iv y1, iv y2, iv y3, .unset, iv ((own_n (own_cs y1 y2 y3))), .unset]) rfl ?_
      refine XS.aloadN X3.here hx rfl (hb hby d10_50) rfl rfl ?_
      show oS p e below T3 (mkF m 51 #[rv a0, iv y1, iv y2, iv y3, .unset, iv ((own_n (own_cs y1 y2 y3))), .unset] [(.ref a0)]) _
      refine st4 _ ?_
      refine XS.iload X4.here hx rfl (hb hby d10_54) rfl ?_
      refine X4.iaload hx (j := (own_n (own_cs y1 y2 y3))) (v := (.int (c1 (own_cs y1 y2 y3)))) (by rw [e4]; exact Ar5.1) (State.isArrayOf_alike hZ.alike Ar5.2.1) Ar5.2.2 hin5 hat5 (g := (mkF m 56 #[rv a0, iv y1, iv y2, iv y3, .unset, iv ((own_n (own_cs y1 y2 y3))), .unset] [(.int (own_n (own_cs y1 y2 y3))), (.ref qa)])) rfl rfl (hb hby d10_56) _ ?_
      refine XS.iloadN X4.here hx rfl (hb hby d10_57) rfl ?_
      refine XS.icmpYes X4.here hx rfl (pc0 := 58) (pc' := 87) rfl (hb hby d10_58) rfl (XT.ii_ne_t hm) (by decide) (by decide) ?_
      refine XT.iconstV X4.here hx rfl (0 : Int32) (hb hby d10_87) (by decide) ?_
      refine XS.istore X4.here hx rfl (hb hby d10_88) rfl (l' := #[rv a0, iv y1, iv y2, iv y3, .unset, iv ((own_n (own_cs y1 y2 y3))), iv 0]) rfl ?_
      refine XS.iload X4.here hx rfl (hb hby d10_90) rfl ?_
      refine XS.ifYes X4.here hx rfl (pc0 := 92) (pc' := 105) rfl (hb hby d10_92) rfl (XT.i0_eq_t (by decide)) (by decide) (by decide) ?_
      refine XT.iconstV X4.here hx rfl (-1 : Int32) (hb hby d10_105) (by decide) ?_
      show oS p e below T4 (mkF m 106 #[rv a0, iv y1, iv y2, iv y3, .unset, iv ((own_n (own_cs y1 y2 y3))), iv 0] [(.int (-1))]) _
      refine XS.istore X4.here hx rfl (hb hby d10_106) rfl (l' := #[rv a0, iv y1, iv y2, iv y3, iv (-1 : Int32), iv ((own_n (own_cs y1 y2 y3))), iv 0]) rfl ?_
      refine XS.iload X4.here hx rfl (hb hby d10_108) rfl ?_
      exact kz)
    obtain ⟨fs, hr, hrun, hended, hW, hsame⟩ := X4.leave (v := some (.int (-1))) (fun h => by rw [Bd.returns] at h; cases h)
    refine ⟨_, _, pre0 _ (S6 _ ?_), hrun, hended, _, _, rfl, ?_, ⟨_, rfl⟩, hW, hsame.mono (by decide) (by decide)⟩
    · exact retI X4 hx Bd.returns (hb hby d10_110) hr
    · show QrmKM Z a0 av al ah au qa qb qc qd vr lw hg uq c1 c2 c3 c4 sz y1 y2 y3 h0 n0 _ T4.heap _
      rw [e4]
      exact ⟨rfl, N3, rfl⟩
  · obtain ⟨_, T7, Lc7, X7, hQ7, st7⟩ := own_private (W := 0) (y := mN6) X0 hx hZ hown (hw _ (own_w 66 rfl)) (hw _ (own_w 4 rfl)) (hw _ (own_w 68 rfl)) (hw _ (own_w 67 rfl)) (hw _ (own_w 69 rfl)) (hw _ (own_w 5 rfl)) (by decide) (rmSlot l Z av0 hw [] a0 av al ah au qa qb qc qd vr lw hg uq c1 c2 c3 c4 sz y1 y2 y3 h0 n0 Z0 hD) (by decide) (by decide) hD.E (g := (mkF m 45 #[rv a0, iv y1, iv y2, iv y3, .unset, .unset, .unset] [(.int y3), (.int y2), (.int y1), (.ref a0)])) rfl (by rw [hml]; rfl) (argsL := [(.int y1), (.int y2), (.int y3)]) (rest := []) (lenOf pd__III_I rfl) rfl (hb hby d10_45) rfl e0 (by decide : 0 + 0 ≤ _) (by decide : 0 + 0 ≤ _)
    obtain ⟨rfl, N7q, hh7⟩ := hQ7
    have N7 := Fr.app N0 N7q
    have e7 : T7.heap = h0 := hh7
    obtain ⟨T8, X8, e8, st8⟩ := getF X7 hx hZ hown (host := "") (Or.inl (hw _ (own_w 28 rfl))) Via.refl e7 hD.Fqa (g := (mkF m 51 #[rv a0, iv y1, iv y2, iv y3, .unset, iv ((own_n (own_cs y1 y2 y3))), .unset] [(.ref a0)])) rfl rfl (hb hby d10_51)
    obtain ⟨kc9, cl9, Ar9, qk9, Sz9, Ng9, Hs9, Gs9⟩ := id hD.Aqa
    have hin9 : ¬ ((own_n (own_cs y1 y2 y3)) < 0 ∨ cl9.slots.size ≤ ((own_n (own_cs y1 y2 y3))).toNatClampNeg) := own_inb (n := 1024) (k := (own_cs y1 y2 y3)) Sz9 (by decide) (own_csl _ _ _)
    have hat9 : cl9.slots[((own_n (own_cs y1 y2 y3))).toNatClampNeg]? = some (.int (c1 (own_cs y1 y2 y3))) := own_at (n := 1024) (k := (own_cs y1 y2 y3)) (g := c1) Hs9 Sz9 (by decide) (own_csl _ _ _) rfl
    have S10 : ∀ tz, oS p e below T8 (mkF m 110 #[rv a0, iv y1, iv y2, iv y3, iv (-1 : Int32), iv ((own_n (own_cs y1 y2 y3))), iv 0] [(.int (-1))]) tz → oS p e below s₁ (mkF m 0 #[rv a0, iv y1, iv y2, iv y3, .unset, .unset, .unset] []) tz := fun tz kz => S1 tz (by
      show oS p e below s₁ (mkF m 28 #[rv a0, iv y1, iv y2, iv y3, .unset, .unset, .unset] [(.int 1), (.int y2)]) _
      refine XS.icmpYes X0.here hx rfl (pc0 := 28) (pc' := 41) rfl (hb hby d10_28) rfl (XT.ii_ne_t hc28_2) (by decide) (by decide) ?_
      refine XS.aloadN X0.here hx rfl (hb hby d10_41) rfl rfl ?_
      refine XS.iloadN X0.here hx rfl (hb hby d10_42) rfl ?_
      refine XS.iloadN X0.here hx rfl (hb hby d10_43) rfl ?_
      refine XS.iloadN X0.here hx rfl (hb hby d10_44) rfl ?_
      refine st7 _ ?_
      refine XS.istore X7.here hx rfl (hb hby d10_48) rfl (l' := #[rv a0, iv y1, iv y2, iv y3, .unset, iv ((own_n (own_cs y1 y2 y3))), .unset]) rfl ?_
      refine XS.aloadN X7.here hx rfl (hb hby d10_50) rfl rfl ?_
      refine st8 _ ?_
      refine XS.iload X8.here hx rfl (hb hby d10_54) rfl ?_
      show oS p e below T8 (mkF m 56 #[rv a0, iv y1, iv y2, iv y3, .unset, iv ((own_n (own_cs y1 y2 y3))), .unset] [(.int (own_n (own_cs y1 y2 y3))), (.ref qa)]) _
      refine X8.iaload hx (j := (own_n (own_cs y1 y2 y3))) (v := (.int (c1 (own_cs y1 y2 y3)))) (by rw [e8]; exact Ar9.1) (State.isArrayOf_alike hZ.alike Ar9.2.1) Ar9.2.2 hin9 hat9 (g := (mkF m 56 #[rv a0, iv y1, iv y2, iv y3, .unset, iv ((own_n (own_cs y1 y2 y3))), .unset] [(.int (own_n (own_cs y1 y2 y3))), (.ref qa)])) rfl rfl (hb hby d10_56) _ ?_
      refine XS.iloadN X8.here hx rfl (hb hby d10_57) rfl ?_
      refine XS.icmpYes X8.here hx rfl (pc0 := 58) (pc' := 87) rfl (hb hby d10_58) rfl (XT.ii_ne_t hm) (by decide) (by decide) ?_
      refine XT.iconstV X8.here hx rfl (0 : Int32) (hb hby d10_87) (by decide) ?_
      refine XS.istore X8.here hx rfl (hb hby d10_88) rfl (l' := #[rv a0, iv y1, iv y2, iv y3, .unset, iv ((own_n (own_cs y1 y2 y3))), iv 0]) rfl ?_
      refine XS.iload X8.here hx rfl (hb hby d10_90) rfl ?_
      refine XS.ifYes X8.here hx rfl (pc0 := 92) (pc' := 105) rfl (hb hby d10_92) rfl (XT.i0_eq_t (by decide)) (by decide) (by decide) ?_
      refine XT.iconstV X8.here hx rfl (-1 : Int32) (hb hby d10_105) (by decide) ?_
      refine XS.istore X8.here hx rfl (hb hby d10_106) rfl (l' := #[rv a0, iv y1, iv y2, iv y3, iv (-1 : Int32), iv ((own_n (own_cs y1 y2 y3))), iv 0]) rfl ?_
      refine XS.iload X8.here hx rfl (hb hby d10_108) rfl ?_
      show oS p e below T8 (mkF m 110 #[rv a0, iv y1, iv y2, iv y3, iv (-1 : Int32), iv ((own_n (own_cs y1 y2 y3))), iv 0] [(.int (-1))]) _
      exact kz)
    obtain ⟨fs, hr, hrun, hended, hW, hsame⟩ := X8.leave (v := some (.int (-1))) (fun h => by rw [Bd.returns] at h; cases h)
    refine ⟨_, _, pre0 _ (S10 _ ?_), hrun, hended, _, _, rfl, ?_, ⟨_, rfl⟩, hW, hsame.mono (by decide) (by decide)⟩
    · exact retI X8 hx Bd.returns (hb hby d10_110) hr
    · show QrmKM Z a0 av al ah au qa qb qc qd vr lw hg uq c1 c2 c3 c4 sz y1 y2 y3 h0 n0 _ T8.heap _
      rw [e8]
      exact ⟨rfl, N7, rfl⟩
theorem d10_61 : decode prog_72_method_5_code 61 = .ok (.aload_n 0, 1) := by decide +kernel
theorem d10_62 : decode prog_72_method_5_code 62 = .ok (.getfield 31, 3) := by decide +kernel
theorem d10_65 : decode prog_72_method_5_code 65 = .ok (.iload 5, 2) := by decide +kernel
theorem d10_67 : decode prog_72_method_5_code 67 = .ok (.iaload, 1) := by decide +kernel
theorem d10_68 : decode prog_72_method_5_code 68 = .ok (.iload_n 2, 1) := by decide +kernel
theorem d10_69 : decode prog_72_method_5_code 69 = .ok (.if_icmp .ne 18, 3) := by decide +kernel
theorem d10_72 : decode prog_72_method_5_code 72 = .ok (.aload_n 0, 1) := by decide +kernel
theorem d10_73 : decode prog_72_method_5_code 73 = .ok (.getfield 34, 3) := by decide +kernel
theorem d10_76 : decode prog_72_method_5_code 76 = .ok (.iload 5, 2) := by decide +kernel
theorem d10_78 : decode prog_72_method_5_code 78 = .ok (.iaload, 1) := by decide +kernel
theorem d10_79 : decode prog_72_method_5_code 79 = .ok (.iload_n 3, 1) := by decide +kernel
theorem d10_80 : decode prog_72_method_5_code 80 = .ok (.if_icmp .ne 7, 3) := by decide +kernel
theorem d10_83 : decode prog_72_method_5_code 83 = .ok (.iconst 1, 1) := by decide +kernel
theorem d10_84 : decode prog_72_method_5_code 84 = .ok (.goto 4, 3) := by decide +kernel
theorem d10_95 : decode prog_72_method_5_code 95 = .ok (.aload_n 0, 1) := by decide +kernel
theorem d10_96 : decode prog_72_method_5_code 96 = .ok (.getfield 37, 3) := by decide +kernel
theorem d10_99 : decode prog_72_method_5_code 99 = .ok (.iload 5, 2) := by decide +kernel
theorem d10_101 : decode prog_72_method_5_code 101 = .ok (.iaload, 1) := by decide +kernel
theorem d10_102 : decode prog_72_method_5_code 102 = .ok (.goto 4, 3) := by decide +kernel
def QrmKH (Z : State) (a0 : Addr) (av : Addr) (al : Addr) (ah : Addr) (au : Addr) (qa : Addr) (qb : Addr) (qc : Addr) (qd : Addr) (vr : Nat → Int32) (lw : Nat → Int32) (hg : Nat → Int32) (uq : Nat → Int32) (c1 : Nat → Int32) (c2 : Nat → Int32) (c3 : Nat → Int32) (c4 : Nat → Int32) (sz : Nat) (y1 : Int32) (y2 : Int32) (y3 : Int32) (yr : Int32) (h0 : Heap) (n0 : Nat) (v : Option Value) (h : Heap) (L : List Loc) : Prop := v = some (.int yr) ∧ Fr n0 L ∧ h = h0
set_option maxRecDepth 65536 in
set_option maxHeartbeats 40000000 in
theorem rmKH (l : Launch) (Z : State) (av0 : Array Value) (hw : ∀ d ∈ tables_1, d.before av0 Z = true) (ws : List Jvm.Cond) (a0 : Addr) (av : Addr) (al : Addr) (ah : Addr) (au : Addr) (qa : Addr) (qb : Addr) (qc : Addr) (qd : Addr) (vr : Nat → Int32) (lw : Nat → Int32) (hg : Nat → Int32) (uq : Nat → Int32) (c1 : Nat → Int32) (c2 : Nat → Int32) (c3 : Nat → Int32) (c4 : Nat → Int32) (sz : Nat) (y1 : Int32) (y2 : Int32) (y3 : Int32) (yr : Int32) (h0 : Heap) (n0 : Nat) (Z0 : n0 ≤ h0.size) (hD : own_Dia Z h0 a0 av al ah au qa qb qc qd vr lw hg uq c1 c2 c3 c4 sz) (n1 : ¬ y1 = 1) (n23 : ¬ y2 = y3) (n0' : ¬ y1 = 0) (n10 : ¬ (y2 = 1 ∧ y3 = 0)) (ga1 : c1 (own_cs y1 y2 y3) = y1) (ga2 : c2 (own_cs y1 y2 y3) = y2) (ga3 : c3 (own_cs y1 y2 y3) = y3) (ga4 : c4 (own_cs y1 y2 y3) = yr) :
    own_Met l mN7 prog_72_method_5_code 7 (some .int) ws ({ frames := 2, cells := 0, slots := 0, locals := 30 } : Room) #[(.ref a0), (.int y1), (.int y2), (.int y3)] Z h0 (QrmKH Z a0 av al ah au qa qb qc qd vr lw hg uq c1 c2 c3 c4 sz y1 y2 y3 yr h0 n0) := by
  refine MetFree.of_bodySF (plainFor_of_name pn_DecisionDiagram) hisR ?_
  intro p e s m args below meth c s₁ Bd hml0 hP hK
  obtain ⟨rfl, hZ, hh⟩ := hP
  have hml : c.maxLocals = 7 := hml0
  obtain ⟨hx, hby, hown, hnm, X0, e0⟩ := own_start Bd hml0 hh
  have N0 := Fr.nil n0
  have pre0 : ∀ tz, oS p e below s₁ (mkF m 0 #[rv a0, iv y1, iv y2, iv y3, .unset, .unset, .unset] []) tz → Steps p.tables e below (s₁.setTop (entryFrame m #[(.ref a0), (.int y1), (.int y2), (.int y3)] 7)) tz := fun tz kz => castTop (by first | (simp [entryFrame, mkF, argsToLocals, Value.category]; done) | rfl) kz
  have S1 : ∀ tz, oS p e below s₁ (mkF m 28 #[rv a0, iv y1, iv y2, iv y3, .unset, .unset, .unset] [(.int 1), (.int y2)]) tz → oS p e below s₁ (mkF m 0 #[rv a0, iv y1, iv y2, iv y3, .unset, .unset, .unset] []) tz := fun tz kz => id (by
    show oS p e below s₁ (mkF m 0 #[rv a0, iv y1, iv y2, iv y3, .unset, .unset, .unset] []) _
    refine XS.iloadN X0.here hx rfl (hb hby d10_0) rfl ?_
    refine XT.iconstV X0.here hx rfl (1 : Int32) (hb hby d10_1) (by decide) ?_
    refine XS.icmpNo X0.here hx rfl (hb hby d10_2) rfl (XT.ii_eq_f n1) ?_
    refine XS.iloadN X0.here hx rfl (hb hby d10_5) rfl ?_
    refine XS.iloadN X0.here hx rfl (hb hby d10_6) rfl ?_
    refine XS.icmpYes X0.here hx rfl (pc0 := 7) (pc' := 16) rfl (hb hby d10_7) rfl (XT.ii_ne_t n23) (by decide) (by decide) ?_
    refine XS.iloadN X0.here hx rfl (hb hby d10_16) rfl ?_
    refine XS.ifYes X0.here hx rfl (pc0 := 17) (pc' := 26) rfl (hb hby d10_17) rfl (XT.i0_ne_t n0') (by decide) (by decide) ?_
    refine XS.iloadN X0.here hx rfl (hb hby d10_26) rfl ?_
    refine XT.iconstV X0.here hx rfl (1 : Int32) (hb hby d10_27) (by decide) ?_
    show oS p e below s₁ (mkF m 28 #[rv a0, iv y1, iv y2, iv y3, .unset, .unset, .unset] [(.int 1), (.int y2)]) _
    exact kz)
  by_cases hc28_2 : y2 = (1 : Int32)
  · obtain ⟨_, T3, Lc3, X3, hQ3, st3⟩ := own_private (W := 0) (y := mN6) X0 hx hZ hown (hw _ (own_w 66 rfl)) (hw _ (own_w 4 rfl)) (hw _ (own_w 68 rfl)) (hw _ (own_w 67 rfl)) (hw _ (own_w 69 rfl)) (hw _ (own_w 5 rfl)) (by decide) (rmSlot l Z av0 hw [] a0 av al ah au qa qb qc qd vr lw hg uq c1 c2 c3 c4 sz y1 y2 y3 h0 n0 Z0 hD) (by decide) (by decide) hD.E (g := (mkF m 45 #[rv a0, iv y1, iv y2, iv y3, .unset, .unset, .unset] [(.int y3), (.int y2), (.int y1), (.ref a0)])) rfl (by rw [hml]; rfl) (argsL := [(.int y1), (.int y2), (.int y3)]) (rest := []) (lenOf pd__III_I rfl) rfl (hb hby d10_45) rfl e0 (by decide : 0 + 0 ≤ _) (by decide : 0 + 0 ≤ _)
    obtain ⟨rfl, N3q, hh3⟩ := hQ3
    have N3 := Fr.app N0 N3q
    have e3 : T3.heap = h0 := hh3
    obtain ⟨T4, X4, e4, st4⟩ := getF X3 hx hZ hown (host := "") (Or.inl (hw _ (own_w 28 rfl))) Via.refl e3 hD.Fqa (g := (mkF m 51 #[rv a0, iv y1, iv y2, iv y3, .unset, iv ((own_n (own_cs y1 y2 y3))), .unset] [(.ref a0)])) rfl rfl (hb hby d10_51)
    obtain ⟨kc5, cl5, Ar5, qk5, Sz5, Ng5, Hs5, Gs5⟩ := id hD.Aqa
    have hin5 : ¬ ((own_n (own_cs y1 y2 y3)) < 0 ∨ cl5.slots.size ≤ ((own_n (own_cs y1 y2 y3))).toNatClampNeg) := own_inb (n := 1024) (k := (own_cs y1 y2 y3)) Sz5 (by decide) (own_csl _ _ _)
    have hat5 : cl5.slots[((own_n (own_cs y1 y2 y3))).toNatClampNeg]? = some (.int (c1 (own_cs y1 y2 y3))) := own_at (n := 1024) (k := (own_cs y1 y2 y3)) (g := c1) Hs5 Sz5 (by decide) (own_csl _ _ _) rfl
    obtain ⟨T6, X6, e6, st6⟩ := getF X4 hx hZ hown (host := "") (Or.inl (hw _ (own_w 30 rfl))) Via.refl e4 hD.Fqb (g := (mkF m 62 #[rv a0, iv y1, iv y2, iv y3, .unset, iv ((own_n (own_cs y1 y2 y3))), .unset] [(.ref a0)])) rfl rfl (hb hby d10_62)
    obtain ⟨kc7, cl7, Ar7, qk7, Sz7, Ng7, Hs7, Gs7⟩ := id hD.Aqb
    have hin7 : ¬ ((own_n (own_cs y1 y2 y3)) < 0 ∨ cl7.slots.size ≤ ((own_n (own_cs y1 y2 y3))).toNatClampNeg) := own_inb (n := 1024) (k := (own_cs y1 y2 y3)) Sz7 (by decide) (own_csl _ _ _)
    have hat7 : cl7.slots[((own_n (own_cs y1 y2 y3))).toNatClampNeg]? = some (.int (c2 (own_cs y1 y2 y3))) := own_at (n := 1024) (k := (own_cs y1 y2 y3)) (g := c2) Hs7 Sz7 (by decide) (own_csl _ _ _) rfl
    obtain ⟨T8, X8, e8, st8⟩ := getF X6 hx hZ hown (host := "") (Or.inl (hw _ (own_w 32 rfl))) Via.refl e6 hD.Fqc (g := (mkF m 73 #[rv a0, iv y1, iv y2, iv y3, .unset, iv ((own_n (own_cs y1 y2 y3))), .unset] [(.ref a0)])) rfl rfl (hb hby d10_73)
    obtain ⟨kc9, cl9, Ar9, qk9, Sz9, Ng9, Hs9, Gs9⟩ := id hD.Aqc
    have hin9 : ¬ ((own_n (own_cs y1 y2 y3)) < 0 ∨ cl9.slots.size ≤ ((own_n (own_cs y1 y2 y3))).toNatClampNeg) := own_inb (n := 1024) (k := (own_cs y1 y2 y3)) Sz9 (by decide) (own_csl _ _ _)
    have hat9 : cl9.slots[((own_n (own_cs y1 y2 y3))).toNatClampNeg]? = some (.int (c3 (own_cs y1 y2 y3))) := own_at (n := 1024) (k := (own_cs y1 y2 y3)) (g := c3) Hs9 Sz9 (by decide) (own_csl _ _ _) rfl
    obtain ⟨T10, X10, e10, st10⟩ := getF X8 hx hZ hown (host := "") (Or.inl (hw _ (own_w 34 rfl))) Via.refl e8 hD.Fqd (g := (mkF m 96 #[rv a0, iv y1, iv y2, iv y3, .unset, iv ((own_n (own_cs y1 y2 y3))), iv 1] [(.ref a0)])) rfl rfl (hb hby d10_96)
    obtain ⟨kc11, cl11, Ar11, qk11, Sz11, Ng11, Hs11, Gs11⟩ := id hD.Aqd
    have hin11 : ¬ ((own_n (own_cs y1 y2 y3)) < 0 ∨ cl11.slots.size ≤ ((own_n (own_cs y1 y2 y3))).toNatClampNeg) := own_inb (n := 1024) (k := (own_cs y1 y2 y3)) Sz11 (by decide) (own_csl _ _ _)
    have hat11 : cl11.slots[((own_n (own_cs y1 y2 y3))).toNatClampNeg]? = some (.int yr) := own_at (n := 1024) (k := (own_cs y1 y2 y3)) (g := c4) Hs11 Sz11 (by decide) (own_csl _ _ _) ga4
    have S12 : ∀ tz, oS p e below T10 (mkF m 110 #[rv a0, iv y1, iv y2, iv y3, iv yr, iv ((own_n (own_cs y1 y2 y3))), iv 1] [(.int yr)]) tz → oS p e below s₁ (mkF m 0 #[rv a0, iv y1, iv y2, iv y3, .unset, .unset, .unset] []) tz := fun tz kz => S1 tz (by
      show oS p e below s₁ (mkF m 28 #[rv a0, iv y1, iv y2, iv y3, .unset, .unset, .unset] [(.int 1), (.int y2)]) _
      refine XS.icmpNo X0.here hx rfl (hb hby d10_28) rfl (XT.ii_ne_f hc28_2) ?_
      refine XS.iloadN X0.here hx rfl (hb hby d10_31) rfl ?_
      refine XS.ifYes X0.here hx rfl (pc0 := 32) (pc' := 41) rfl (hb hby d10_32) rfl (XT.i0_ne_t (fun q => n10 ⟨hc28_2, q⟩)) (by decide) (by decide) ?_
      refine XS.aloadN X0.here hx rfl (hb hby d10_41) rfl rfl ?_
      refine XS.iloadN X0.here hx rfl (hb hby d10_42) rfl ?_
      refine XS.iloadN X0.here hx rfl (hb hby d10_43) rfl ?_
      refine XS.iloadN X0.here hx rfl (hb hby d10_44) rfl ?_
      refine st3 _ ?_
      refine XS.istore X3.here hx rfl (hb hby d10_48) rfl (l' := #[rv a0, iv y1, iv y2, iv y3, .unset, iv ((own_n (own_cs y1 y2 y3))), .unset]) rfl ?_
      refine XS.aloadN X3.here hx rfl (hb hby d10_50) rfl rfl ?_
      show oS p e below T3 (mkF m 51 #[rv a0, iv y1, iv y2, iv y3, .unset, iv ((own_n (own_cs y1 y2 y3))), .unset] [(.ref a0)]) _
      refine st4 _ ?_
      refine XS.iload X4.here hx rfl (hb hby d10_54) rfl ?_
      refine X4.iaload hx (j := (own_n (own_cs y1 y2 y3))) (v := (.int (c1 (own_cs y1 y2 y3)))) (by rw [e4]; exact Ar5.1) (State.isArrayOf_alike hZ.alike Ar5.2.1) Ar5.2.2 hin5 hat5 (g := (mkF m 56 #[rv a0, iv y1, iv y2, iv y3, .unset, iv ((own_n (own_cs y1 y2 y3))), .unset] [(.int (own_n (own_cs y1 y2 y3))), (.ref qa)])) rfl rfl (hb hby d10_56) _ ?_
      refine XS.iloadN X4.here hx rfl (hb hby d10_57) rfl ?_
      refine XS.icmpNo X4.here hx rfl (hb hby d10_58) rfl (XT.ii_ne_f ga1) ?_
      refine XS.aloadN X4.here hx rfl (hb hby d10_61) rfl rfl ?_
      refine st6 _ ?_
      refine XS.iload X6.here hx rfl (hb hby d10_65) rfl ?_
      refine X6.iaload hx (j := (own_n (own_cs y1 y2 y3))) (v := (.int (c2 (own_cs y1 y2 y3)))) (by rw [e6]; exact Ar7.1) (State.isArrayOf_alike hZ.alike Ar7.2.1) Ar7.2.2 hin7 hat7 (g := (mkF m 67 #[rv a0, iv y1, iv y2, iv y3, .unset, iv ((own_n (own_cs y1 y2 y3))), .unset] [(.int (own_n (own_cs y1 y2 y3))), (.ref qb)])) rfl rfl (hb hby d10_67) _ ?_
      refine XS.iloadN X6.here hx rfl (hb hby d10_68) rfl ?_
      show oS p e below T6 (mkF m 69 #[rv a0, iv y1, iv y2, iv y3, .unset, iv ((own_n (own_cs y1 y2 y3))), .unset] [(.int y2), (.int (c2 (own_cs y1 y2 y3)))]) _
      refine XS.icmpNo X6.here hx rfl (hb hby d10_69) rfl (XT.ii_ne_f ga2) ?_
      refine XS.aloadN X6.here hx rfl (hb hby d10_72) rfl rfl ?_
      refine st8 _ ?_
      refine XS.iload X8.here hx rfl (hb hby d10_76) rfl ?_
      refine X8.iaload hx (j := (own_n (own_cs y1 y2 y3))) (v := (.int (c3 (own_cs y1 y2 y3)))) (by rw [e8]; exact Ar9.1) (State.isArrayOf_alike hZ.alike Ar9.2.1) Ar9.2.2 hin9 hat9 (g := (mkF m 78 #[rv a0, iv y1, iv y2, iv y3, .unset, iv ((own_n (own_cs y1 y2 y3))), .unset] [(.int (own_n (own_cs y1 y2 y3))), (.ref qc)])) rfl rfl (hb hby d10_78) _ ?_
      refine XS.iloadN X8.here hx rfl (hb hby d10_79) rfl ?_
      refine XS.icmpNo X8.here hx rfl (hb hby d10_80) rfl (XT.ii_ne_f ga3) ?_
      refine XT.iconstV X8.here hx rfl (1 : Int32) (hb hby d10_83) (by decide) ?_
      refine XS.goto X8.here hx rfl (pc0 := 84) (pc' := 88) rfl (hb hby d10_84) (by decide) (by decide) ?_
      refine XS.istore X8.here hx rfl (hb hby d10_88) rfl (l' := #[rv a0, iv y1, iv y2, iv y3, .unset, iv ((own_n (own_cs y1 y2 y3))), iv 1]) rfl ?_
      show oS p e below T8 (mkF m 90 #[rv a0, iv y1, iv y2, iv y3, .unset, iv ((own_n (own_cs y1 y2 y3))), iv 1] []) _
      refine XS.iload X8.here hx rfl (hb hby d10_90) rfl ?_
      refine XS.ifNo X8.here hx rfl (hb hby d10_92) rfl (XT.i0_eq_f (by decide)) ?_
      refine XS.aloadN X8.here hx rfl (hb hby d10_95) rfl rfl ?_
      refine st10 _ ?_
      refine XS.iload X10.here hx rfl (hb hby d10_99) rfl ?_
      refine X10.iaload hx (j := (own_n (own_cs y1 y2 y3))) (v := (.int yr)) (by rw [e10]; exact Ar11.1) (State.isArrayOf_alike hZ.alike Ar11.2.1) Ar11.2.2 hin11 hat11 (g := (mkF m 101 #[rv a0, iv y1, iv y2, iv y3, .unset, iv ((own_n (own_cs y1 y2 y3))), iv 1] [(.int (own_n (own_cs y1 y2 y3))), (.ref qd)])) rfl rfl (hb hby d10_101) _ ?_
      refine XS.goto X10.here hx rfl (pc0 := 102) (pc' := 106) rfl (hb hby d10_102) (by decide) (by decide) ?_
      refine XS.istore X10.here hx rfl (hb hby d10_106) rfl (l' := #[rv a0, iv y1, iv y2, iv y3, iv yr, iv ((own_n (own_cs y1 y2 y3))), iv 1]) rfl ?_
      refine XS.iload X10.here hx rfl (hb hby d10_108) rfl ?_
      exact kz)
    obtain ⟨fs, hr, hrun, hended, hW, hsame⟩ := X10.leave (v := some (.int yr)) (fun h => by rw [Bd.returns] at h; cases h)
    refine ⟨_, _, pre0 _ (S12 _ ?_), hrun, hended, _, _, rfl, ?_, ⟨_, rfl⟩, hW, hsame.mono (by decide) (by decide)⟩
    · exact retI X10 hx Bd.returns (hb hby d10_110) hr
    · show QrmKH Z a0 av al ah au qa qb qc qd vr lw hg uq c1 c2 c3 c4 sz y1 y2 y3 yr h0 n0 _ T10.heap _
      rw [e10]
      exact ⟨rfl, N3, rfl⟩
  · obtain ⟨_, T13, Lc13, X13, hQ13, st13⟩ := own_private (W := 0) (y := mN6) X0 hx hZ hown (hw _ (own_w 66 rfl)) (hw _ (own_w 4 rfl)) (hw _ (own_w 68 rfl)) (hw _ (own_w 67 rfl)) (hw _ (own_w 69 rfl)) (hw _ (own_w 5 rfl)) (by decide) (rmSlot l Z av0 hw [] a0 av al ah au qa qb qc qd vr lw hg uq c1 c2 c3 c4 sz y1 y2 y3 h0 n0 Z0 hD) (by decide) (by decide) hD.E (g := (mkF m 45 #[rv a0, iv y1, iv y2, iv y3, .unset, .unset, .unset] [(.int y3), (.int y2), (.int y1), (.ref a0)])) rfl (by rw [hml]; rfl) (argsL := [(.int y1), (.int y2), (.int y3)]) (rest := []) (lenOf pd__III_I rfl) rfl (hb hby d10_45) rfl e0 (by decide : 0 + 0 ≤ _) (by decide : 0 + 0 ≤ _)
    obtain ⟨rfl, N13q, hh13⟩ := hQ13
    have N13 := Fr.app N0 N13q
    have e13 : T13.heap = h0 := hh13
    obtain ⟨T14, X14, e14, st14⟩ := getF X13 hx hZ hown (host := "") (Or.inl (hw _ (own_w 28 rfl))) Via.refl e13 hD.Fqa (g := (mkF m 51 #[rv a0, iv y1, iv y2, iv y3, .unset, iv ((own_n (own_cs y1 y2 y3))), .unset] [(.ref a0)])) rfl rfl (hb hby d10_51)
    obtain ⟨kc15, cl15, Ar15, qk15, Sz15, Ng15, Hs15, Gs15⟩ := id hD.Aqa
    have hin15 : ¬ ((own_n (own_cs y1 y2 y3)) < 0 ∨ cl15.slots.size ≤ ((own_n (own_cs y1 y2 y3))).toNatClampNeg) := own_inb (n := 1024) (k := (own_cs y1 y2 y3)) Sz15 (by decide) (own_csl _ _ _)
    have hat15 : cl15.slots[((own_n (own_cs y1 y2 y3))).toNatClampNeg]? = some (.int (c1 (own_cs y1 y2 y3))) := own_at (n := 1024) (k := (own_cs y1 y2 y3)) (g := c1) Hs15 Sz15 (by decide) (own_csl _ _ _) rfl
    obtain ⟨T16, X16, e16, st16⟩ := getF X14 hx hZ hown (host := "") (Or.inl (hw _ (own_w 30 rfl))) Via.refl e14 hD.Fqb (g := (mkF m 62 #[rv a0, iv y1, iv y2, iv y3, .unset, iv ((own_n (own_cs y1 y2 y3))), .unset] [(.ref a0)])) rfl rfl (hb hby d10_62)
    obtain ⟨kc17, cl17, Ar17, qk17, Sz17, Ng17, Hs17, Gs17⟩ := id hD.Aqb
    have hin17 : ¬ ((own_n (own_cs y1 y2 y3)) < 0 ∨ cl17.slots.size ≤ ((own_n (own_cs y1 y2 y3))).toNatClampNeg) := own_inb (n := 1024) (k := (own_cs y1 y2 y3)) Sz17 (by decide) (own_csl _ _ _)
    have hat17 : cl17.slots[((own_n (own_cs y1 y2 y3))).toNatClampNeg]? = some (.int (c2 (own_cs y1 y2 y3))) := own_at (n := 1024) (k := (own_cs y1 y2 y3)) (g := c2) Hs17 Sz17 (by decide) (own_csl _ _ _) rfl
    obtain ⟨T18, X18, e18, st18⟩ := getF X16 hx hZ hown (host := "") (Or.inl (hw _ (own_w 32 rfl))) Via.refl e16 hD.Fqc (g := (mkF m 73 #[rv a0, iv y1, iv y2, iv y3, .unset, iv ((own_n (own_cs y1 y2 y3))), .unset] [(.ref a0)])) rfl rfl (hb hby d10_73)
    obtain ⟨kc19, cl19, Ar19, qk19, Sz19, Ng19, Hs19, Gs19⟩ := id hD.Aqc
    have hin19 : ¬ ((own_n (own_cs y1 y2 y3)) < 0 ∨ cl19.slots.size ≤ ((own_n (own_cs y1 y2 y3))).toNatClampNeg) := own_inb (n := 1024) (k := (own_cs y1 y2 y3)) Sz19 (by decide) (own_csl _ _ _)
    have hat19 : cl19.slots[((own_n (own_cs y1 y2 y3))).toNatClampNeg]? = some (.int (c3 (own_cs y1 y2 y3))) := own_at (n := 1024) (k := (own_cs y1 y2 y3)) (g := c3) Hs19 Sz19 (by decide) (own_csl _ _ _) rfl
    obtain ⟨T20, X20, e20, st20⟩ := getF X18 hx hZ hown (host := "") (Or.inl (hw _ (own_w 34 rfl))) Via.refl e18 hD.Fqd (g := (mkF m 96 #[rv a0, iv y1, iv y2, iv y3, .unset, iv ((own_n (own_cs y1 y2 y3))), iv 1] [(.ref a0)])) rfl rfl (hb hby d10_96)
    obtain ⟨kc21, cl21, Ar21, qk21, Sz21, Ng21, Hs21, Gs21⟩ := id hD.Aqd
    have hin21 : ¬ ((own_n (own_cs y1 y2 y3)) < 0 ∨ cl21.slots.size ≤ ((own_n (own_cs y1 y2 y3))).toNatClampNeg) := own_inb (n := 1024) (k := (own_cs y1 y2 y3)) Sz21 (by decide) (own_csl _ _ _)
    have hat21 : cl21.slots[((own_n (own_cs y1 y2 y3))).toNatClampNeg]? = some (.int yr) := own_at (n := 1024) (k := (own_cs y1 y2 y3)) (g := c4) Hs21 Sz21 (by decide) (own_csl _ _ _) ga4
    have S22 : ∀ tz, oS p e below T20 (mkF m 110 #[rv a0, iv y1, iv y2, iv y3, iv yr, iv ((own_n (own_cs y1 y2 y3))), iv 1] [(.int yr)]) tz → oS p e below s₁ (mkF m 0 #[rv a0, iv y1, iv y2, iv y3, .unset, .unset, .unset] []) tz := fun tz kz => S1 tz (by
      show oS p e below s₁ (mkF m 28 #[rv a0, iv y1, iv y2, iv y3, .unset, .unset, .unset] [(.int 1), (.int y2)]) _
      refine XS.icmpYes X0.here hx rfl (pc0 := 28) (pc' := 41) rfl (hb hby d10_28) rfl (XT.ii_ne_t hc28_2) (by decide) (by decide) ?_
      refine XS.aloadN X0.here hx rfl (hb hby d10_41) rfl rfl ?_
      refine XS.iloadN X0.here hx rfl (hb hby d10_42) rfl ?_
      refine XS.iloadN X0.here hx rfl (hb hby d10_43) rfl ?_
      refine XS.iloadN X0.here hx rfl (hb hby d10_44) rfl ?_
      refine st13 _ ?_
      refine XS.istore X13.here hx rfl (hb hby d10_48) rfl (l' := #[rv a0, iv y1, iv y2, iv y3, .unset, iv ((own_n (own_cs y1 y2 y3))), .unset]) rfl ?_
      refine XS.aloadN X13.here hx rfl (hb hby d10_50) rfl rfl ?_
      refine st14 _ ?_
      refine XS.iload X14.here hx rfl (hb hby d10_54) rfl ?_
      show oS p e below T14 (mkF m 56 #[rv a0, iv y1, iv y2, iv y3, .unset, iv ((own_n (own_cs y1 y2 y3))), .unset] [(.int (own_n (own_cs y1 y2 y3))), (.ref qa)]) _
      refine X14.iaload hx (j := (own_n (own_cs y1 y2 y3))) (v := (.int (c1 (own_cs y1 y2 y3)))) (by rw [e14]; exact Ar15.1) (State.isArrayOf_alike hZ.alike Ar15.2.1) Ar15.2.2 hin15 hat15 (g := (mkF m 56 #[rv a0, iv y1, iv y2, iv y3, .unset, iv ((own_n (own_cs y1 y2 y3))), .unset] [(.int (own_n (own_cs y1 y2 y3))), (.ref qa)])) rfl rfl (hb hby d10_56) _ ?_
      refine XS.iloadN X14.here hx rfl (hb hby d10_57) rfl ?_
      refine XS.icmpNo X14.here hx rfl (hb hby d10_58) rfl (XT.ii_ne_f ga1) ?_
      refine XS.aloadN X14.here hx rfl (hb hby d10_61) rfl rfl ?_
      refine st16 _ ?_
      refine XS.iload X16.here hx rfl (hb hby d10_65) rfl ?_
      refine X16.iaload hx (j := (own_n (own_cs y1 y2 y3))) (v := (.int (c2 (own_cs y1 y2 y3)))) (by rw [e16]; exact Ar17.1) (State.isArrayOf_alike hZ.alike Ar17.2.1) Ar17.2.2 hin17 hat17 (g := (mkF m 67 #[rv a0, iv y1, iv y2, iv y3, .unset, iv ((own_n (own_cs y1 y2 y3))), .unset] [(.int (own_n (own_cs y1 y2 y3))), (.ref qb)])) rfl rfl (hb hby d10_67) _ ?_
      refine XS.iloadN X16.here hx rfl (hb hby d10_68) rfl ?_
      refine XS.icmpNo X16.here hx rfl (hb hby d10_69) rfl (XT.ii_ne_f ga2) ?_
      refine XS.aloadN X16.here hx rfl (hb hby d10_72) rfl rfl ?_
      show oS p e below T16 (mkF m 73 #[rv a0, iv y1, iv y2, iv y3, .unset, iv ((own_n (own_cs y1 y2 y3))), .unset] [(.ref a0)]) _
      refine st18 _ ?_
      refine XS.iload X18.here hx rfl (hb hby d10_76) rfl ?_
      refine X18.iaload hx (j := (own_n (own_cs y1 y2 y3))) (v := (.int (c3 (own_cs y1 y2 y3)))) (by rw [e18]; exact Ar19.1) (State.isArrayOf_alike hZ.alike Ar19.2.1) Ar19.2.2 hin19 hat19 (g := (mkF m 78 #[rv a0, iv y1, iv y2, iv y3, .unset, iv ((own_n (own_cs y1 y2 y3))), .unset] [(.int (own_n (own_cs y1 y2 y3))), (.ref qc)])) rfl rfl (hb hby d10_78) _ ?_
      refine XS.iloadN X18.here hx rfl (hb hby d10_79) rfl ?_
      refine XS.icmpNo X18.here hx rfl (hb hby d10_80) rfl (XT.ii_ne_f ga3) ?_
      refine XT.iconstV X18.here hx rfl (1 : Int32) (hb hby d10_83) (by decide) ?_
      refine XS.goto X18.here hx rfl (pc0 := 84) (pc' := 88) rfl (hb hby d10_84) (by decide) (by decide) ?_
      refine XS.istore X18.here hx rfl (hb hby d10_88) rfl (l' := #[rv a0, iv y1, iv y2, iv y3, .unset, iv ((own_n (own_cs y1 y2 y3))), iv 1]) rfl ?_
      refine XS.iload X18.here hx rfl (hb hby d10_90) rfl ?_
      refine XS.ifNo X18.here hx rfl (hb hby d10_92) rfl (XT.i0_eq_f (by decide)) ?_
      show oS p e below T18 (mkF m 95 #[rv a0, iv y1, iv y2, iv y3, .unset, iv ((own_n (own_cs y1 y2 y3))), iv 1] []) _
      refine XS.aloadN X18.here hx rfl (hb hby d10_95) rfl rfl ?_
      refine st20 _ ?_
      refine XS.iload X20.here hx rfl (hb hby d10_99) rfl ?_
      refine X20.iaload hx (j := (own_n (own_cs y1 y2 y3))) (v := (.int yr)) (by rw [e20]; exact Ar21.1) (State.isArrayOf_alike hZ.alike Ar21.2.1) Ar21.2.2 hin21 hat21 (g := (mkF m 101 #[rv a0, iv y1, iv y2, iv y3, .unset, iv ((own_n (own_cs y1 y2 y3))), iv 1] [(.int (own_n (own_cs y1 y2 y3))), (.ref qd)])) rfl rfl (hb hby d10_101) _ ?_
      refine XS.goto X20.here hx rfl (pc0 := 102) (pc' := 106) rfl (hb hby d10_102) (by decide) (by decide) ?_
      refine XS.istore X20.here hx rfl (hb hby d10_106) rfl (l' := #[rv a0, iv y1, iv y2, iv y3, iv yr, iv ((own_n (own_cs y1 y2 y3))), iv 1]) rfl ?_
      refine XS.iload X20.here hx rfl (hb hby d10_108) rfl ?_
      exact kz)
    obtain ⟨fs, hr, hrun, hended, hW, hsame⟩ := X20.leave (v := some (.int yr)) (fun h => by rw [Bd.returns] at h; cases h)
    refine ⟨_, _, pre0 _ (S22 _ ?_), hrun, hended, _, _, rfl, ?_, ⟨_, rfl⟩, hW, hsame.mono (by decide) (by decide)⟩
    · exact retI X20 hx Bd.returns (hb hby d10_110) hr
    · show QrmKH Z a0 av al ah au qa qb qc qd vr lw hg uq c1 c2 c3 c4 sz y1 y2 y3 yr h0 n0 _ T20.heap _
      rw [e20]
      exact ⟨rfl, N13, rfl⟩
theorem d14_0 : decode jdk_29_method_69_code 0 = .ok (.iload_n 0, 1) := by decide +kernel
theorem d14_1 : decode jdk_29_method_69_code 1 = .ok (.iload_n 1, 1) := by decide +kernel
theorem d14_2 : decode jdk_29_method_69_code 2 = .ok (.if_icmp .gt 7, 3) := by decide +kernel
theorem d14_5 : decode jdk_29_method_69_code 5 = .ok (.iload_n 0, 1) := by decide +kernel
theorem d14_6 : decode jdk_29_method_69_code 6 = .ok (.goto 4, 3) := by decide +kernel
theorem d14_9 : decode jdk_29_method_69_code 9 = .ok (.iload_n 1, 1) := by decide +kernel
theorem d14_10 : decode jdk_29_method_69_code 10 = .ok (.ireturn, 1) := by decide +kernel
def QrmMin (Z : State) (y0 : Int32) (y1 : Int32) (h0 : Heap) (n0 : Nat) (v : Option Value) (h : Heap) (L : List Loc) : Prop := v = some (.int (own_min y0 y1)) ∧ Fr n0 L ∧ h = h0
set_option maxRecDepth 65536 in
set_option maxHeartbeats 40000000 in
theorem rmMin (l : Launch) (Z : State) (av0 : Array Value) (hw : ∀ d ∈ tables_1, d.before av0 Z = true) (ws : List Jvm.Cond) (y0 : Int32) (y1 : Int32) (h0 : Heap) (n0 : Nat) (Z0 : n0 ≤ h0.size)  :
    own_Met l mN8 jdk_29_method_69_code 2 (some .int) ws ({ frames := 0, cells := 0, slots := 0, locals := 0 } : Room) #[(.int y0), (.int y1)] Z h0 (QrmMin Z y0 y1 h0 n0) := by
  refine MetFree.of_bodySF (Jvm.Free.JP.mathPlain rfl (by decide +kernel)) hisR ?_
  intro p e s m args below meth c s₁ Bd hml0 hP hK
  obtain ⟨rfl, hZ, hh⟩ := hP
  have hml : c.maxLocals = 2 := hml0
  obtain ⟨hx, hby, hown, hnm, X0, e0⟩ := own_start Bd hml0 hh
  have N0 := Fr.nil n0
  have pre0 : ∀ tz, oS p e below s₁ (mkF m 0 #[iv y0, iv y1] []) tz → Steps p.tables e below (s₁.setTop (entryFrame m #[(.int y0), (.int y1)] 2)) tz := fun tz kz => castTop (by first | (simp [entryFrame, mkF, argsToLocals, Value.category]; done) | rfl) kz
  have S1 : ∀ tz, oS p e below s₁ (mkF m 2 #[iv y0, iv y1] [(.int y1), (.int y0)]) tz → oS p e below s₁ (mkF m 0 #[iv y0, iv y1] []) tz := fun tz kz => id (by
    show oS p e below s₁ (mkF m 0 #[iv y0, iv y1] []) _
    refine XS.iloadN X0.here hx rfl (hb hby d14_0) rfl ?_
    refine XS.iloadN X0.here hx rfl (hb hby d14_1) rfl ?_
    exact kz)
  by_cases hc2_2 : y1 < y0
  · have S3 : ∀ tz, oS p e below s₁ (mkF m 10 #[iv y0, iv y1] [(.int y1)]) tz → oS p e below s₁ (mkF m 0 #[iv y0, iv y1] []) tz := fun tz kz => S1 tz (by
      show oS p e below s₁ (mkF m 2 #[iv y0, iv y1] [(.int y1), (.int y0)]) _
      refine XS.icmpYes X0.here hx rfl (pc0 := 2) (pc' := 9) rfl (hb hby d14_2) rfl (XT.ii_gt_t hc2_2) (by decide) (by decide) ?_
      refine XS.iloadN X0.here hx rfl (hb hby d14_9) rfl ?_
      exact kz)
    obtain ⟨fs, hr, hrun, hended, hW, hsame⟩ := X0.leave (v := some (.int y1)) (fun h => by rw [Bd.returns] at h; cases h)
    refine ⟨_, _, pre0 _ (S3 _ ?_), hrun, hended, _, _, rfl, ?_, ⟨_, rfl⟩, hW, hsame.mono (by decide) (by decide)⟩
    · exact retI X0 hx Bd.returns (hb hby d14_10) hr
    · show QrmMin Z y0 y1 h0 n0 _ s₁.heap _
      rw [e0]
      exact ⟨congrArg (fun z => some (Value.int z)) (if_pos hc2_2).symm, N0, rfl⟩
  · have S4 : ∀ tz, oS p e below s₁ (mkF m 10 #[iv y0, iv y1] [(.int y0)]) tz → oS p e below s₁ (mkF m 0 #[iv y0, iv y1] []) tz := fun tz kz => S1 tz (by
      show oS p e below s₁ (mkF m 2 #[iv y0, iv y1] [(.int y1), (.int y0)]) _
      refine XS.icmpNo X0.here hx rfl (hb hby d14_2) rfl (XT.ii_gt_f hc2_2) ?_
      refine XS.iloadN X0.here hx rfl (hb hby d14_5) rfl ?_
      refine XS.goto X0.here hx rfl (pc0 := 6) (pc' := 10) rfl (hb hby d14_6) (by decide) (by decide) ?_
      exact kz)
    obtain ⟨fs, hr, hrun, hended, hW, hsame⟩ := X0.leave (v := some (.int y0)) (fun h => by rw [Bd.returns] at h; cases h)
    refine ⟨_, _, pre0 _ (S4 _ ?_), hrun, hended, _, _, rfl, ?_, ⟨_, rfl⟩, hW, hsame.mono (by decide) (by decide)⟩
    · exact retI X0 hx Bd.returns (hb hby d14_10) hr
    · show QrmMin Z y0 y1 h0 n0 _ s₁.heap _
      rw [e0]
      exact ⟨congrArg (fun z => some (Value.int z)) (if_neg hc2_2).symm, N0, rfl⟩
theorem d13_0 : decode prog_72_method_8_code 0 = .ok (.aload_n 0, 1) := by decide +kernel
theorem d13_1 : decode prog_72_method_8_code 1 = .ok (.getfield 11, 3) := by decide +kernel
theorem d13_4 : decode prog_72_method_8_code 4 = .ok (.iload_n 1, 1) := by decide +kernel
theorem d13_5 : decode prog_72_method_8_code 5 = .ok (.iaload, 1) := by decide +kernel
theorem d13_6 : decode prog_72_method_8_code 6 = .ok (.aload_n 0, 1) := by decide +kernel
theorem d13_7 : decode prog_72_method_8_code 7 = .ok (.getfield 11, 3) := by decide +kernel
theorem d13_10 : decode prog_72_method_8_code 10 = .ok (.iload_n 2, 1) := by decide +kernel
theorem d13_11 : decode prog_72_method_8_code 11 = .ok (.iaload, 1) := by decide +kernel
theorem d13_12 : decode prog_72_method_8_code 12 = .ok (.aload_n 0, 1) := by decide +kernel
theorem d13_13 : decode prog_72_method_8_code 13 = .ok (.getfield 11, 3) := by decide +kernel
theorem d13_16 : decode prog_72_method_8_code 16 = .ok (.iload_n 3, 1) := by decide +kernel
theorem d13_17 : decode prog_72_method_8_code 17 = .ok (.iaload, 1) := by decide +kernel
theorem d13_18 : decode prog_72_method_8_code 18 = .ok (.invokestatic 109, 3) := by decide +kernel
theorem d13_21 : decode prog_72_method_8_code 21 = .ok (.invokestatic 109, 3) := by decide +kernel
theorem d13_24 : decode prog_72_method_8_code 24 = .ok (.ireturn, 1) := by decide +kernel
theorem pd__II_I : parseMethodDescriptor "(II)I" = some ⟨[.int, .int], some .int⟩ := by decide +kernel
def QrmTop (Z : State) (a0 : Addr) (av : Addr) (al : Addr) (ah : Addr) (au : Addr) (qa : Addr) (qb : Addr) (qc : Addr) (qd : Addr) (vr : Nat → Int32) (lw : Nat → Int32) (hg : Nat → Int32) (uq : Nat → Int32) (c1 : Nat → Int32) (c2 : Nat → Int32) (c3 : Nat → Int32) (c4 : Nat → Int32) (sz : Nat) (f : Nat) (g : Nat) (gz : Nat) (h0 : Heap) (n0 : Nat) (v : Option Value) (h : Heap) (L : List Loc) : Prop := v = some (.int (own_min (vr f) (own_min (vr g) (vr gz)))) ∧ Fr n0 L ∧ h = h0
set_option maxRecDepth 65536 in
set_option maxHeartbeats 40000000 in
theorem rmTop (l : Launch) (Z : State) (av0 : Array Value) (hw : ∀ d ∈ tables_1, d.before av0 Z = true) (ws : List Jvm.Cond) (a0 : Addr) (av : Addr) (al : Addr) (ah : Addr) (au : Addr) (qa : Addr) (qb : Addr) (qc : Addr) (qd : Addr) (vr : Nat → Int32) (lw : Nat → Int32) (hg : Nat → Int32) (uq : Nat → Int32) (c1 : Nat → Int32) (c2 : Nat → Int32) (c3 : Nat → Int32) (c4 : Nat → Int32) (sz : Nat) (f : Nat) (g : Nat) (gz : Nat) (h0 : Heap) (n0 : Nat) (Z0 : n0 ≤ h0.size) (hD : own_Dia Z h0 a0 av al ah au qa qb qc qd vr lw hg uq c1 c2 c3 c4 sz) (hf : f < 1000) (hg' : g < 1000) (hh' : gz < 1000) :
    own_Met l mN9 prog_72_method_8_code 4 (some .int) ws ({ frames := 1, cells := 0, slots := 0, locals := 14 } : Room) #[(.ref a0), (.int (own_n f)), (.int (own_n g)), (.int (own_n gz))] Z h0 (QrmTop Z a0 av al ah au qa qb qc qd vr lw hg uq c1 c2 c3 c4 sz f g gz h0 n0) := by
  refine MetFree.of_bodySF (plainFor_of_name pn_DecisionDiagram) hisR ?_
  intro p e s m args below meth c s₁ Bd hml0 hP hK
  obtain ⟨rfl, hZ, hh⟩ := hP
  have hml : c.maxLocals = 4 := hml0
  obtain ⟨hx, hby, hown, hnm, X0, e0⟩ := own_start Bd hml0 hh
  have N0 := Fr.nil n0
  have pre0 : ∀ tz, oS p e below s₁ (mkF m 0 #[rv a0, iv (own_n f), iv (own_n g), iv (own_n gz)] []) tz → Steps p.tables e below (s₁.setTop (entryFrame m #[(.ref a0), (.int (own_n f)), (.int (own_n g)), (.int (own_n gz))] 4)) tz := fun tz kz => castTop (by first | (simp [entryFrame, mkF, argsToLocals, Value.category]; done) | rfl) kz
  obtain ⟨T1, X1, e1, st1⟩ := getF X0 hx hZ hown (host := "") (Or.inl (hw _ (own_w 13 rfl))) Via.refl e0 hD.Fav (g := (mkF m 1 #[rv a0, iv (own_n f), iv (own_n g), iv (own_n gz)] [(.ref a0)])) rfl rfl (hb hby d13_1)
  obtain ⟨kc2, cl2, Ar2, qk2, Sz2, Ng2, Hs2, Gs2⟩ := id hD.Aav
  have hin2 : ¬ ((own_n f) < 0 ∨ cl2.slots.size ≤ ((own_n f)).toNatClampNeg) := own_inb (n := 1024) (k := f) Sz2 (by decide) (by omega)
  have hat2 : cl2.slots[((own_n f)).toNatClampNeg]? = some (.int (vr f)) := own_at (n := 1024) (k := f) (g := vr) Hs2 Sz2 (by decide) (by omega) rfl
  obtain ⟨T3, X3, e3, st3⟩ := getF X1 hx hZ hown (host := "") (Or.inl (hw _ (own_w 13 rfl))) Via.refl e1 hD.Fav (g := (mkF m 7 #[rv a0, iv (own_n f), iv (own_n g), iv (own_n gz)] [(.ref a0), (.int (vr f))])) rfl rfl (hb hby d13_7)
  obtain ⟨kc4, cl4, Ar4, qk4, Sz4, Ng4, Hs4, Gs4⟩ := id hD.Aav
  have hin4 : ¬ ((own_n g) < 0 ∨ cl4.slots.size ≤ ((own_n g)).toNatClampNeg) := own_inb (n := 1024) (k := g) Sz4 (by decide) (by omega)
  have hat4 : cl4.slots[((own_n g)).toNatClampNeg]? = some (.int (vr g)) := own_at (n := 1024) (k := g) (g := vr) Hs4 Sz4 (by decide) (by omega) rfl
  obtain ⟨T5, X5, e5, st5⟩ := getF X3 hx hZ hown (host := "") (Or.inl (hw _ (own_w 13 rfl))) Via.refl e3 hD.Fav (g := (mkF m 13 #[rv a0, iv (own_n f), iv (own_n g), iv (own_n gz)] [(.ref a0), (.int (vr g)), (.int (vr f))])) rfl rfl (hb hby d13_13)
  obtain ⟨kc6, cl6, Ar6, qk6, Sz6, Ng6, Hs6, Gs6⟩ := id hD.Aav
  have hin6 : ¬ ((own_n gz) < 0 ∨ cl6.slots.size ≤ ((own_n gz)).toNatClampNeg) := own_inb (n := 1024) (k := gz) Sz6 (by decide) (by omega)
  have hat6 : cl6.slots[((own_n gz)).toNatClampNeg]? = some (.int (vr gz)) := own_at (n := 1024) (k := gz) (g := vr) Hs6 Sz6 (by decide) (by omega) rfl
  obtain ⟨_, T7, Lc7, X7, hQ7, st7⟩ := own_callS (W := 1) (y := mN8) X5 hx hZ hown (hw _ (own_w 93 rfl)) (hw _ (own_w 94 rfl)) (hw _ (own_w 95 rfl)) (hw _ (own_w 96 rfl)) (by decide) (rmMin l Z av0 hw [] (vr g) (vr gz) h0 n0 Z0 ) (by decide) (by decide) (g := (mkF m 18 #[rv a0, iv (own_n f), iv (own_n g), iv (own_n gz)] [(.int (vr gz)), (.int (vr g)), (.int (vr f))])) rfl (by rw [hml]; rfl) (argsL := [(.int (vr g)), (.int (vr gz))]) (rest := [(.int (vr f))]) (lenOf pd__II_I rfl) rfl (hb hby d13_18) rfl e5 (by decide : 0 + 0 ≤ _) (by decide : 0 + 0 ≤ _)
  obtain ⟨rfl, N7q, hh7⟩ := hQ7
  have N7 := Fr.app N0 N7q
  have e7 : T7.heap = h0 := hh7
  obtain ⟨_, T8, Lc8, X8, hQ8, st8⟩ := own_callS (W := 0) (y := mN8) X7 hx hZ hown (hw _ (own_w 93 rfl)) (hw _ (own_w 94 rfl)) (hw _ (own_w 95 rfl)) (hw _ (own_w 96 rfl)) (by decide) (rmMin l Z av0 hw [] (vr f) (own_min (vr g) (vr gz)) h0 n0 Z0 ) (by decide) (by decide) (g := (mkF m 21 #[rv a0, iv (own_n f), iv (own_n g), iv (own_n gz)] [(.int (own_min (vr g) (vr gz))), (.int (vr f))])) rfl (by rw [hml]; rfl) (argsL := [(.int (vr f)), (.int (own_min (vr g) (vr gz)))]) (rest := []) (lenOf pd__II_I rfl) rfl (hb hby d13_21) rfl e7 (by decide : 0 + 0 ≤ _) (by decide : 0 + 0 ≤ _)
  obtain ⟨rfl, N8q, hh8⟩ := hQ8
  have N8 := Fr.app N7 N8q
  have e8 : T8.heap = h0 := hh8
  have S9 : ∀ tz, oS p e below T8 (mkF m 24 #[rv a0, iv (own_n f), iv (own_n g), iv (own_n gz)] [(.int (own_min (vr f) (own_min (vr g) (vr gz))))]) tz → oS p e below s₁ (mkF m 0 #[rv a0, iv (own_n f), iv (own_n g), iv (own_n gz)] []) tz := fun tz kz => id (by
    show oS p e below s₁ (mkF m 0 #[rv a0, iv (own_n f), iv (own_n g), iv (own_n gz)] []) _
    refine XS.aloadN X0.here hx rfl (hb hby d13_0) rfl rfl ?_
    refine st1 _ ?_
    refine XS.iloadN X1.here hx rfl (hb hby d13_4) rfl ?_
    refine X1.iaload hx (j := (own_n f)) (v := (.int (vr f))) (by rw [e1]; exact Ar2.1) (State.isArrayOf_alike hZ.alike Ar2.2.1) Ar2.2.2 hin2 hat2 (g := (mkF m 5 #[rv a0, iv (own_n f), iv (own_n g), iv (own_n gz)] [(.int (own_n f)), (.ref av)])) rfl rfl (hb hby d13_5) _ ?_
    refine XS.aloadN X1.here hx rfl (hb hby d13_6) rfl rfl ?_
    refine st3 _ ?_
    refine XS.iloadN X3.here hx rfl (hb hby d13_10) rfl ?_
    refine X3.iaload hx (j := (own_n g)) (v := (.int (vr g))) (by rw [e3]; exact Ar4.1) (State.isArrayOf_alike hZ.alike Ar4.2.1) Ar4.2.2 hin4 hat4 (g := (mkF m 11 #[rv a0, iv (own_n f), iv (own_n g), iv (own_n gz)] [(.int (own_n g)), (.ref av), (.int (vr f))])) rfl rfl (hb hby d13_11) _ ?_
    refine XS.aloadN X3.here hx rfl (hb hby d13_12) rfl rfl ?_
    refine st5 _ ?_
    show oS p e below T5 (mkF m 16 #[rv a0, iv (own_n f), iv (own_n g), iv (own_n gz)] [(.ref av), (.int (vr g)), (.int (vr f))]) _
    refine XS.iloadN X5.here hx rfl (hb hby d13_16) rfl ?_
    refine X5.iaload hx (j := (own_n gz)) (v := (.int (vr gz))) (by rw [e5]; exact Ar6.1) (State.isArrayOf_alike hZ.alike Ar6.2.1) Ar6.2.2 hin6 hat6 (g := (mkF m 17 #[rv a0, iv (own_n f), iv (own_n g), iv (own_n gz)] [(.int (own_n gz)), (.ref av), (.int (vr g)), (.int (vr f))])) rfl rfl (hb hby d13_17) _ ?_
    refine st7 _ ?_
    refine st8 _ ?_
    exact kz)
  obtain ⟨fs, hr, hrun, hended, hW, hsame⟩ := X8.leave (v := some (.int (own_min (vr f) (own_min (vr g) (vr gz))))) (fun h => by rw [Bd.returns] at h; cases h)
  refine ⟨_, _, pre0 _ (S9 _ ?_), hrun, hended, _, _, rfl, ?_, ⟨_, rfl⟩, hW, hsame.mono (by decide) (by decide)⟩
  · exact retI X8 hx Bd.returns (hb hby d13_24) hr
  · show QrmTop Z a0 av al ah au qa qb qc qd vr lw hg uq c1 c2 c3 c4 sz f g gz h0 n0 _ T8.heap _
    rw [e8]
    exact ⟨rfl, N8, rfl⟩
theorem d16_0 : decode prog_72_method_9_code 0 = .ok (.iload_n 1, 1) := by decide +kernel
theorem d16_1 : decode prog_72_method_9_code 1 = .ok (.istore 4, 2) := by decide +kernel
theorem d16_3 : decode prog_72_method_9_code 3 = .ok (.aload_n 0, 1) := by decide +kernel
theorem d16_4 : decode prog_72_method_9_code 4 = .ok (.getfield 11, 3) := by decide +kernel
theorem d16_7 : decode prog_72_method_9_code 7 = .ok (.iload_n 1, 1) := by decide +kernel
theorem d16_8 : decode prog_72_method_9_code 8 = .ok (.iaload, 1) := by decide +kernel
theorem d16_9 : decode prog_72_method_9_code 9 = .ok (.iload_n 2, 1) := by decide +kernel
theorem d16_10 : decode prog_72_method_9_code 10 = .ok (.if_icmp .ne 24, 3) := by decide +kernel
theorem d16_13 : decode prog_72_method_9_code 13 = .ok (.iload_n 3, 1) := by decide +kernel
theorem d16_14 : decode prog_72_method_9_code 14 = .ok (.ifCond .eq 12, 3) := by decide +kernel
theorem d16_26 : decode prog_72_method_9_code 26 = .ok (.aload_n 0, 1) := by decide +kernel
theorem d16_27 : decode prog_72_method_9_code 27 = .ok (.getfield 15, 3) := by decide +kernel
theorem d16_30 : decode prog_72_method_9_code 30 = .ok (.iload_n 1, 1) := by decide +kernel
theorem d16_31 : decode prog_72_method_9_code 31 = .ok (.iaload, 1) := by decide +kernel
theorem d16_32 : decode prog_72_method_9_code 32 = .ok (.istore 4, 2) := by decide +kernel
theorem d16_34 : decode prog_72_method_9_code 34 = .ok (.iload 4, 2) := by decide +kernel
theorem d16_36 : decode prog_72_method_9_code 36 = .ok (.ireturn, 1) := by decide +kernel
def QrmCof0 (Z : State) (a0 : Addr) (av : Addr) (al : Addr) (ah : Addr) (au : Addr) (qa : Addr) (qb : Addr) (qc : Addr) (qd : Addr) (vr : Nat → Int32) (lw : Nat → Int32) (hg : Nat → Int32) (uq : Nat → Int32) (c1 : Nat → Int32) (c2 : Nat → Int32) (c3 : Nat → Int32) (c4 : Nat → Int32) (sz : Nat) (f : Nat) (r : Nat) (y1 : Int32) (h0 : Heap) (n0 : Nat) (v : Option Value) (h : Heap) (L : List Loc) : Prop := v = some (.int (own_n r)) ∧ Fr n0 L ∧ h = h0
set_option maxRecDepth 65536 in
set_option maxHeartbeats 40000000 in
theorem rmCof0 (l : Launch) (Z : State) (av0 : Array Value) (hw : ∀ d ∈ tables_1, d.before av0 Z = true) (ws : List Jvm.Cond) (a0 : Addr) (av : Addr) (al : Addr) (ah : Addr) (au : Addr) (qa : Addr) (qb : Addr) (qc : Addr) (qd : Addr) (vr : Nat → Int32) (lw : Nat → Int32) (hg : Nat → Int32) (uq : Nat → Int32) (c1 : Nat → Int32) (c2 : Nat → Int32) (c3 : Nat → Int32) (c4 : Nat → Int32) (sz : Nat) (f : Nat) (r : Nat) (y1 : Int32) (h0 : Heap) (n0 : Nat) (Z0 : n0 ≤ h0.size) (hD : own_Dia Z h0 a0 av al ah au qa qb qc qd vr lw hg uq c1 c2 c3 c4 sz) (hf : f < 1000) (hc : (vr f = y1 → lw f = own_n r) ∧ (¬ vr f = y1 → f = r)) :
    own_Met l mN10 prog_72_method_9_code 5 (some .int) ws ({ frames := 0, cells := 0, slots := 0, locals := 0 } : Room) #[(.ref a0), (.int (own_n f)), (.int y1), (.int 0)] Z h0 (QrmCof0 Z a0 av al ah au qa qb qc qd vr lw hg uq c1 c2 c3 c4 sz f r y1 h0 n0) := by
  refine MetFree.of_bodySF (plainFor_of_name pn_DecisionDiagram) hisR ?_
  intro p e s m args below meth c s₁ Bd hml0 hP hK
  obtain ⟨rfl, hZ, hh⟩ := hP
  have hml : c.maxLocals = 5 := hml0
  obtain ⟨hx, hby, hown, hnm, X0, e0⟩ := own_start Bd hml0 hh
  have N0 := Fr.nil n0
  have pre0 : ∀ tz, oS p e below s₁ (mkF m 0 #[rv a0, iv (own_n f), iv y1, iv 0, .unset] []) tz → Steps p.tables e below (s₁.setTop (entryFrame m #[(.ref a0), (.int (own_n f)), (.int y1), (.int 0)] 5)) tz := fun tz kz => castTop (by first | (simp [entryFrame, mkF, argsToLocals, Value.category]; done) | rfl) kz
  obtain ⟨T1, X1, e1, st1⟩ := getF X0 hx hZ hown (host := "") (Or.inl (hw _ (own_w 13 rfl))) Via.refl e0 hD.Fav (g := (mkF m 4 #[rv a0, iv (own_n f), iv y1, iv 0, iv (own_n f)] [(.ref a0)])) rfl rfl (hb hby d16_4)
  obtain ⟨kc2, cl2, Ar2, qk2, Sz2, Ng2, Hs2, Gs2⟩ := id hD.Aav
  have hin2 : ¬ ((own_n f) < 0 ∨ cl2.slots.size ≤ ((own_n f)).toNatClampNeg) := own_inb (n := 1024) (k := f) Sz2 (by decide) (by omega)
  have hat2 : cl2.slots[((own_n f)).toNatClampNeg]? = some (.int (vr f)) := own_at (n := 1024) (k := f) (g := vr) Hs2 Sz2 (by decide) (by omega) rfl
  have S3 : ∀ tz, oS p e below T1 (mkF m 10 #[rv a0, iv (own_n f), iv y1, iv 0, iv (own_n f)] [(.int y1), (.int (vr f))]) tz → oS p e below s₁ (mkF m 0 #[rv a0, iv (own_n f), iv y1, iv 0, .unset] []) tz := fun tz kz => id (by
    show oS p e below s₁ (mkF m 0 #[rv a0, iv (own_n f), iv y1, iv 0, .unset] []) _
    refine XS.iloadN X0.here hx rfl (hb hby d16_0) rfl ?_
    refine XS.istore X0.here hx rfl (hb hby d16_1) rfl (l' := #[rv a0, iv (own_n f), iv y1, iv 0, iv (own_n f)]) rfl ?_
    refine XS.aloadN X0.here hx rfl (hb hby d16_3) rfl rfl ?_
    refine st1 _ ?_
    refine XS.iloadN X1.here hx rfl (hb hby d16_7) rfl ?_
    refine X1.iaload hx (j := (own_n f)) (v := (.int (vr f))) (by rw [e1]; exact Ar2.1) (State.isArrayOf_alike hZ.alike Ar2.2.1) Ar2.2.2 hin2 hat2 (g := (mkF m 8 #[rv a0, iv (own_n f), iv y1, iv 0, iv (own_n f)] [(.int (own_n f)), (.ref av)])) rfl rfl (hb hby d16_8) _ ?_
    refine XS.iloadN X1.here hx rfl (hb hby d16_9) rfl ?_
    exact kz)
  by_cases hc10_4 : (vr f) = y1
  · obtain ⟨T5, X5, e5, st5⟩ := getF X1 hx hZ hown (host := "") (Or.inl (hw _ (own_w 15 rfl))) Via.refl e1 hD.Fal (g := (mkF m 27 #[rv a0, iv (own_n f), iv y1, iv 0, iv (own_n f)] [(.ref a0)])) rfl rfl (hb hby d16_27)
    obtain ⟨kc6, cl6, Ar6, qk6, Sz6, Ng6, Hs6, Gs6⟩ := id hD.Aal
    have hin6 : ¬ ((own_n f) < 0 ∨ cl6.slots.size ≤ ((own_n f)).toNatClampNeg) := own_inb (n := 1024) (k := f) Sz6 (by decide) (by omega)
    have hat6 : cl6.slots[((own_n f)).toNatClampNeg]? = some (.int (lw f)) := own_at (n := 1024) (k := f) (g := lw) Hs6 Sz6 (by decide) (by omega) rfl
    have S7 : ∀ tz, oS p e below T5 (mkF m 36 #[rv a0, iv (own_n f), iv y1, iv 0, iv (lw f)] [(.int (lw f))]) tz → oS p e below s₁ (mkF m 0 #[rv a0, iv (own_n f), iv y1, iv 0, .unset] []) tz := fun tz kz => S3 tz (by
      show oS p e below T1 (mkF m 10 #[rv a0, iv (own_n f), iv y1, iv 0, iv (own_n f)] [(.int y1), (.int (vr f))]) _
      refine XS.icmpNo X1.here hx rfl (hb hby d16_10) rfl (XT.ii_ne_f hc10_4) ?_
      refine XS.iloadN X1.here hx rfl (hb hby d16_13) rfl ?_
      refine XS.ifYes X1.here hx rfl (pc0 := 14) (pc' := 26) rfl (hb hby d16_14) rfl (XT.i0_eq_t (by decide)) (by decide) (by decide) ?_
      show oS p e below T1 (mkF m 26 #[rv a0, iv (own_n f), iv y1, iv 0, iv (own_n f)] []) _
      refine XS.aloadN X1.here hx rfl (hb hby d16_26) rfl rfl ?_
      refine st5 _ ?_
      refine XS.iloadN X5.here hx rfl (hb hby d16_30) rfl ?_
      refine X5.iaload hx (j := (own_n f)) (v := (.int (lw f))) (by rw [e5]; exact Ar6.1) (State.isArrayOf_alike hZ.alike Ar6.2.1) Ar6.2.2 hin6 hat6 (g := (mkF m 31 #[rv a0, iv (own_n f), iv y1, iv 0, iv (own_n f)] [(.int (own_n f)), (.ref al)])) rfl rfl (hb hby d16_31) _ ?_
      refine XS.istore X5.here hx rfl (hb hby d16_32) rfl (l' := #[rv a0, iv (own_n f), iv y1, iv 0, iv (lw f)]) rfl ?_
      refine XS.iload X5.here hx rfl (hb hby d16_34) rfl ?_
      exact kz)
    obtain ⟨fs, hr, hrun, hended, hW, hsame⟩ := X5.leave (v := some (.int (lw f))) (fun h => by rw [Bd.returns] at h; cases h)
    refine ⟨_, _, pre0 _ (S7 _ ?_), hrun, hended, _, _, rfl, ?_, ⟨_, rfl⟩, hW, hsame.mono (by decide) (by decide)⟩
    · exact retI X5 hx Bd.returns (hb hby d16_36) hr
    · show QrmCof0 Z a0 av al ah au qa qb qc qd vr lw hg uq c1 c2 c3 c4 sz f r y1 h0 n0 _ T5.heap _
      rw [e5]
      exact ⟨congrArg (fun z => some (Value.int z)) (hc.1 hc10_4), N0, rfl⟩
  · have S8 : ∀ tz, oS p e below T1 (mkF m 36 #[rv a0, iv (own_n f), iv y1, iv 0, iv (own_n f)] [(.int (own_n f))]) tz → oS p e below s₁ (mkF m 0 #[rv a0, iv (own_n f), iv y1, iv 0, .unset] []) tz := fun tz kz => S3 tz (by
      show oS p e below T1 (mkF m 10 #[rv a0, iv (own_n f), iv y1, iv 0, iv (own_n f)] [(.int y1), (.int (vr f))]) _
      refine XS.icmpYes X1.here hx rfl (pc0 := 10) (pc' := 34) rfl (hb hby d16_10) rfl (XT.ii_ne_t hc10_4) (by decide) (by decide) ?_
      refine XS.iload X1.here hx rfl (hb hby d16_34) rfl ?_
      exact kz)
    obtain ⟨fs, hr, hrun, hended, hW, hsame⟩ := X1.leave (v := some (.int (own_n f))) (fun h => by rw [Bd.returns] at h; cases h)
    refine ⟨_, _, pre0 _ (S8 _ ?_), hrun, hended, _, _, rfl, ?_, ⟨_, rfl⟩, hW, hsame.mono (by decide) (by decide)⟩
    · exact retI X1 hx Bd.returns (hb hby d16_36) hr
    · show QrmCof0 Z a0 av al ah au qa qb qc qd vr lw hg uq c1 c2 c3 c4 sz f r y1 h0 n0 _ T1.heap _
      rw [e1]
      exact ⟨congrArg (fun z => some (Value.int z)) (congrArg own_n (hc.2 hc10_4)), N0, rfl⟩
theorem d16_17 : decode prog_72_method_9_code 17 = .ok (.aload_n 0, 1) := by decide +kernel
theorem d16_18 : decode prog_72_method_9_code 18 = .ok (.getfield 18, 3) := by decide +kernel
theorem d16_21 : decode prog_72_method_9_code 21 = .ok (.iload_n 1, 1) := by decide +kernel
theorem d16_22 : decode prog_72_method_9_code 22 = .ok (.iaload, 1) := by decide +kernel
theorem d16_23 : decode prog_72_method_9_code 23 = .ok (.goto 9, 3) := by decide +kernel
def QrmCof1 (Z : State) (a0 : Addr) (av : Addr) (al : Addr) (ah : Addr) (au : Addr) (qa : Addr) (qb : Addr) (qc : Addr) (qd : Addr) (vr : Nat → Int32) (lw : Nat → Int32) (hg : Nat → Int32) (uq : Nat → Int32) (c1 : Nat → Int32) (c2 : Nat → Int32) (c3 : Nat → Int32) (c4 : Nat → Int32) (sz : Nat) (f : Nat) (r : Nat) (y1 : Int32) (h0 : Heap) (n0 : Nat) (v : Option Value) (h : Heap) (L : List Loc) : Prop := v = some (.int (own_n r)) ∧ Fr n0 L ∧ h = h0
set_option maxRecDepth 65536 in
set_option maxHeartbeats 40000000 in
theorem rmCof1 (l : Launch) (Z : State) (av0 : Array Value) (hw : ∀ d ∈ tables_1, d.before av0 Z = true) (ws : List Jvm.Cond) (a0 : Addr) (av : Addr) (al : Addr) (ah : Addr) (au : Addr) (qa : Addr) (qb : Addr) (qc : Addr) (qd : Addr) (vr : Nat → Int32) (lw : Nat → Int32) (hg : Nat → Int32) (uq : Nat → Int32) (c1 : Nat → Int32) (c2 : Nat → Int32) (c3 : Nat → Int32) (c4 : Nat → Int32) (sz : Nat) (f : Nat) (r : Nat) (y1 : Int32) (h0 : Heap) (n0 : Nat) (Z0 : n0 ≤ h0.size) (hD : own_Dia Z h0 a0 av al ah au qa qb qc qd vr lw hg uq c1 c2 c3 c4 sz) (hf : f < 1000) (hc : (vr f = y1 → hg f = own_n r) ∧ (¬ vr f = y1 → f = r)) :
    own_Met l mN10 prog_72_method_9_code 5 (some .int) ws ({ frames := 0, cells := 0, slots := 0, locals := 0 } : Room) #[(.ref a0), (.int (own_n f)), (.int y1), (.int 1)] Z h0 (QrmCof1 Z a0 av al ah au qa qb qc qd vr lw hg uq c1 c2 c3 c4 sz f r y1 h0 n0) := by
  refine MetFree.of_bodySF (plainFor_of_name pn_DecisionDiagram) hisR ?_
  intro p e s m args below meth c s₁ Bd hml0 hP hK
  obtain ⟨rfl, hZ, hh⟩ := hP
  have hml : c.maxLocals = 5 := hml0
  obtain ⟨hx, hby, hown, hnm, X0, e0⟩ := own_start Bd hml0 hh
  have N0 := Fr.nil n0
  have pre0 : ∀ tz, oS p e below s₁ (mkF m 0 #[rv a0, iv (own_n f), iv y1, iv 1, .unset] []) tz → Steps p.tables e below (s₁.setTop (entryFrame m #[(.ref a0), (.int (own_n f)), (.int y1), (.int 1)] 5)) tz := fun tz kz => castTop (by first | (simp [entryFrame, mkF, argsToLocals, Value.category]; done) | rfl) kz
  obtain ⟨T1, X1, e1, st1⟩ := getF X0 hx hZ hown (host := "") (Or.inl (hw _ (own_w 13 rfl))) Via.refl e0 hD.Fav (g := (mkF m 4 #[rv a0, iv (own_n f), iv y1, iv 1, iv (own_n f)] [(.ref a0)])) rfl rfl (hb hby d16_4)
  obtain ⟨kc2, cl2, Ar2, qk2, Sz2, Ng2, Hs2, Gs2⟩ := id hD.Aav
  have hin2 : ¬ ((own_n f) < 0 ∨ cl2.slots.size ≤ ((own_n f)).toNatClampNeg) := own_inb (n := 1024) (k := f) Sz2 (by decide) (by omega)
  have hat2 : cl2.slots[((own_n f)).toNatClampNeg]? = some (.int (vr f)) := own_at (n := 1024) (k := f) (g := vr) Hs2 Sz2 (by decide) (by omega) rfl
  have S3 : ∀ tz, oS p e below T1 (mkF m 10 #[rv a0, iv (own_n f), iv y1, iv 1, iv (own_n f)] [(.int y1), (.int (vr f))]) tz → oS p e below s₁ (mkF m 0 #[rv a0, iv (own_n f), iv y1, iv 1, .unset] []) tz := fun tz kz => id (by
    show oS p e below s₁ (mkF m 0 #[rv a0, iv (own_n f), iv y1, iv 1, .unset] []) _
    refine XS.iloadN X0.here hx rfl (hb hby d16_0) rfl ?_
    refine XS.istore X0.here hx rfl (hb hby d16_1) rfl (l' := #[rv a0, iv (own_n f), iv y1, iv 1, iv (own_n f)]) rfl ?_
    refine XS.aloadN X0.here hx rfl (hb hby d16_3) rfl rfl ?_
    refine st1 _ ?_
    refine XS.iloadN X1.here hx rfl (hb hby d16_7) rfl ?_
    refine X1.iaload hx (j := (own_n f)) (v := (.int (vr f))) (by rw [e1]; exact Ar2.1) (State.isArrayOf_alike hZ.alike Ar2.2.1) Ar2.2.2 hin2 hat2 (g := (mkF m 8 #[rv a0, iv (own_n f), iv y1, iv 1, iv (own_n f)] [(.int (own_n f)), (.ref av)])) rfl rfl (hb hby d16_8) _ ?_
    refine XS.iloadN X1.here hx rfl (hb hby d16_9) rfl ?_
    exact kz)
  by_cases hc10_4 : (vr f) = y1
  · obtain ⟨T5, X5, e5, st5⟩ := getF X1 hx hZ hown (host := "") (Or.inl (hw _ (own_w 17 rfl))) Via.refl e1 hD.Fah (g := (mkF m 18 #[rv a0, iv (own_n f), iv y1, iv 1, iv (own_n f)] [(.ref a0)])) rfl rfl (hb hby d16_18)
    obtain ⟨kc6, cl6, Ar6, qk6, Sz6, Ng6, Hs6, Gs6⟩ := id hD.Aah
    have hin6 : ¬ ((own_n f) < 0 ∨ cl6.slots.size ≤ ((own_n f)).toNatClampNeg) := own_inb (n := 1024) (k := f) Sz6 (by decide) (by omega)
    have hat6 : cl6.slots[((own_n f)).toNatClampNeg]? = some (.int (hg f)) := own_at (n := 1024) (k := f) (g := hg) Hs6 Sz6 (by decide) (by omega) rfl
    have S7 : ∀ tz, oS p e below T5 (mkF m 36 #[rv a0, iv (own_n f), iv y1, iv 1, iv (hg f)] [(.int (hg f))]) tz → oS p e below s₁ (mkF m 0 #[rv a0, iv (own_n f), iv y1, iv 1, .unset] []) tz := fun tz kz => S3 tz (by
      show oS p e below T1 (mkF m 10 #[rv a0, iv (own_n f), iv y1, iv 1, iv (own_n f)] [(.int y1), (.int (vr f))]) _
      refine XS.icmpNo X1.here hx rfl (hb hby d16_10) rfl (XT.ii_ne_f hc10_4) ?_
      refine XS.iloadN X1.here hx rfl (hb hby d16_13) rfl ?_
      refine XS.ifNo X1.here hx rfl (hb hby d16_14) rfl (XT.i0_eq_f (by decide)) ?_
      show oS p e below T1 (mkF m 17 #[rv a0, iv (own_n f), iv y1, iv 1, iv (own_n f)] []) _
      refine XS.aloadN X1.here hx rfl (hb hby d16_17) rfl rfl ?_
      refine st5 _ ?_
      refine XS.iloadN X5.here hx rfl (hb hby d16_21) rfl ?_
      refine X5.iaload hx (j := (own_n f)) (v := (.int (hg f))) (by rw [e5]; exact Ar6.1) (State.isArrayOf_alike hZ.alike Ar6.2.1) Ar6.2.2 hin6 hat6 (g := (mkF m 22 #[rv a0, iv (own_n f), iv y1, iv 1, iv (own_n f)] [(.int (own_n f)), (.ref ah)])) rfl rfl (hb hby d16_22) _ ?_
      refine XS.goto X5.here hx rfl (pc0 := 23) (pc' := 32) rfl (hb hby d16_23) (by decide) (by decide) ?_
      refine XS.istore X5.here hx rfl (hb hby d16_32) rfl (l' := #[rv a0, iv (own_n f), iv y1, iv 1, iv (hg f)]) rfl ?_
      refine XS.iload X5.here hx rfl (hb hby d16_34) rfl ?_
      exact kz)
    obtain ⟨fs, hr, hrun, hended, hW, hsame⟩ := X5.leave (v := some (.int (hg f))) (fun h => by rw [Bd.returns] at h; cases h)
    refine ⟨_, _, pre0 _ (S7 _ ?_), hrun, hended, _, _, rfl, ?_, ⟨_, rfl⟩, hW, hsame.mono (by decide) (by decide)⟩
    · exact retI X5 hx Bd.returns (hb hby d16_36) hr
    · show QrmCof1 Z a0 av al ah au qa qb qc qd vr lw hg uq c1 c2 c3 c4 sz f r y1 h0 n0 _ T5.heap _
      rw [e5]
      exact ⟨congrArg (fun z => some (Value.int z)) (hc.1 hc10_4), N0, rfl⟩
  · have S8 : ∀ tz, oS p e below T1 (mkF m 36 #[rv a0, iv (own_n f), iv y1, iv 1, iv (own_n f)] [(.int (own_n f))]) tz → oS p e below s₁ (mkF m 0 #[rv a0, iv (own_n f), iv y1, iv 1, .unset] []) tz := fun tz kz => S3 tz (by
      show oS p e below T1 (mkF m 10 #[rv a0, iv (own_n f), iv y1, iv 1, iv (own_n f)] [(.int y1), (.int (vr f))]) _
      refine XS.icmpYes X1.here hx rfl (pc0 := 10) (pc' := 34) rfl (hb hby d16_10) rfl (XT.ii_ne_t hc10_4) (by decide) (by decide) ?_
      refine XS.iload X1.here hx rfl (hb hby d16_34) rfl ?_
      exact kz)
    obtain ⟨fs, hr, hrun, hended, hW, hsame⟩ := X1.leave (v := some (.int (own_n f))) (fun h => by rw [Bd.returns] at h; cases h)
    refine ⟨_, _, pre0 _ (S8 _ ?_), hrun, hended, _, _, rfl, ?_, ⟨_, rfl⟩, hW, hsame.mono (by decide) (by decide)⟩
    · exact retI X1 hx Bd.returns (hb hby d16_36) hr
    · show QrmCof1 Z a0 av al ah au qa qb qc qd vr lw hg uq c1 c2 c3 c4 sz f r y1 h0 n0 _ T1.heap _
      rw [e1]
      exact ⟨congrArg (fun z => some (Value.int z)) (congrArg own_n (hc.2 hc10_4)), N0, rfl⟩
theorem d18_0 : decode prog_72_method_6_code 0 = .ok (.aload_n 0, 1) := by decide +kernel
theorem d18_1 : decode prog_72_method_6_code 1 = .ok (.iload_n 1, 1) := by decide +kernel
theorem d18_2 : decode prog_72_method_6_code 2 = .ok (.iload_n 2, 1) := by decide +kernel
theorem d18_3 : decode prog_72_method_6_code 3 = .ok (.iload_n 3, 1) := by decide +kernel
theorem d18_4 : decode prog_72_method_6_code 4 = .ok (.invokevirtual 103, 3) := by decide +kernel
theorem d18_7 : decode prog_72_method_6_code 7 = .ok (.istore 5, 2) := by decide +kernel
theorem d18_9 : decode prog_72_method_6_code 9 = .ok (.aload_n 0, 1) := by decide +kernel
theorem d18_10 : decode prog_72_method_6_code 10 = .ok (.getfield 28, 3) := by decide +kernel
theorem d18_13 : decode prog_72_method_6_code 13 = .ok (.iload 5, 2) := by decide +kernel
theorem d18_15 : decode prog_72_method_6_code 15 = .ok (.iload_n 1, 1) := by decide +kernel
theorem d18_16 : decode prog_72_method_6_code 16 = .ok (.iastore, 1) := by decide +kernel
theorem d18_17 : decode prog_72_method_6_code 17 = .ok (.aload_n 0, 1) := by decide +kernel
theorem d18_18 : decode prog_72_method_6_code 18 = .ok (.getfield 31, 3) := by decide +kernel
theorem d18_21 : decode prog_72_method_6_code 21 = .ok (.iload 5, 2) := by decide +kernel
theorem d18_23 : decode prog_72_method_6_code 23 = .ok (.iload_n 2, 1) := by decide +kernel
theorem d18_24 : decode prog_72_method_6_code 24 = .ok (.iastore, 1) := by decide +kernel
theorem d18_25 : decode prog_72_method_6_code 25 = .ok (.aload_n 0, 1) := by decide +kernel
theorem d18_26 : decode prog_72_method_6_code 26 = .ok (.getfield 34, 3) := by decide +kernel
theorem d18_29 : decode prog_72_method_6_code 29 = .ok (.iload 5, 2) := by decide +kernel
theorem d18_31 : decode prog_72_method_6_code 31 = .ok (.iload_n 3, 1) := by decide +kernel
theorem d18_32 : decode prog_72_method_6_code 32 = .ok (.iastore, 1) := by decide +kernel
theorem d18_33 : decode prog_72_method_6_code 33 = .ok (.aload_n 0, 1) := by decide +kernel
theorem d18_34 : decode prog_72_method_6_code 34 = .ok (.getfield 37, 3) := by decide +kernel
theorem d18_37 : decode prog_72_method_6_code 37 = .ok (.iload 5, 2) := by decide +kernel
theorem d18_39 : decode prog_72_method_6_code 39 = .ok (.iload 4, 2) := by decide +kernel
theorem d18_41 : decode prog_72_method_6_code 41 = .ok (.iastore, 1) := by decide +kernel
theorem d18_42 : decode prog_72_method_6_code 42 = .ok (.return_, 1) := by decide +kernel
def QrmRem (Z : State) (a0 : Addr) (av : Addr) (al : Addr) (ah : Addr) (au : Addr) (qa : Addr) (qb : Addr) (qc : Addr) (qd : Addr) (vr : Nat → Int32) (lw : Nat → Int32) (hg : Nat → Int32) (uq : Nat → Int32) (c1 : Nat → Int32) (c2 : Nat → Int32) (c3 : Nat → Int32) (c4 : Nat → Int32) (sz : Nat) (y1 : Int32) (y2 : Int32) (y3 : Int32) (y4 : Int32) (h0 : Heap) (n0 : Nat) (v : Option Value) (h : Heap) (L : List Loc) : Prop := v = none ∧ Fr n0 L ∧ Keep h0 h [a0, av, al, ah, au, qa, qb, qc, qd] ∧ own_Dia Z h a0 av al ah au qa qb qc qd vr lw hg uq (own_up c1 (own_cs y1 y2 y3) y1) (own_up c2 (own_cs y1 y2 y3) y2) (own_up c3 (own_cs y1 y2 y3) y3) (own_up c4 (own_cs y1 y2 y3) y4) sz
set_option maxRecDepth 65536 in
set_option maxHeartbeats 40000000 in
theorem rmRem (l : Launch) (Z : State) (av0 : Array Value) (hw : ∀ d ∈ tables_1, d.before av0 Z = true) (ws : List Jvm.Cond) (a0 : Addr) (av : Addr) (al : Addr) (ah : Addr) (au : Addr) (qa : Addr) (qb : Addr) (qc : Addr) (qd : Addr) (vr : Nat → Int32) (lw : Nat → Int32) (hg : Nat → Int32) (uq : Nat → Int32) (c1 : Nat → Int32) (c2 : Nat → Int32) (c3 : Nat → Int32) (c4 : Nat → Int32) (sz : Nat) (y1 : Int32) (y2 : Int32) (y3 : Int32) (y4 : Int32) (h0 : Heap) (n0 : Nat) (Z0 : n0 ≤ h0.size) (hD : own_Dia Z h0 a0 av al ah au qa qb qc qd vr lw hg uq c1 c2 c3 c4 sz) (hS : own_Sep n0 [a0, av, al, ah, au, qa, qb, qc, qd]) :
    own_Met l mN11 prog_72_method_6_code 6 none ws ({ frames := 2, cells := 0, slots := 0, locals := 30 } : Room) #[(.ref a0), (.int y1), (.int y2), (.int y3), (.int y4)] Z h0 (QrmRem Z a0 av al ah au qa qb qc qd vr lw hg uq c1 c2 c3 c4 sz y1 y2 y3 y4 h0 n0) := by
  refine MetFree.of_bodySF (plainFor_of_name pn_DecisionDiagram) hisR ?_
  intro p e s m args below meth c s₁ Bd hml0 hP hK
  obtain ⟨rfl, hZ, hh⟩ := hP
  have hml : c.maxLocals = 6 := hml0
  obtain ⟨hx, hby, hown, hnm, X0, e0⟩ := own_start Bd hml0 hh
  have N0 := Fr.nil n0
  have pre0 : ∀ tz, oS p e below s₁ (mkF m 0 #[rv a0, iv y1, iv y2, iv y3, iv y4, .unset] []) tz → Steps p.tables e below (s₁.setTop (entryFrame m #[(.ref a0), (.int y1), (.int y2), (.int y3), (.int y4)] 6)) tz := fun tz kz => castTop (by first | (simp [entryFrame, mkF, argsToLocals, Value.category]; done) | rfl) kz
  obtain ⟨_, T1, Lc1, X1, hQ1, st1⟩ := own_private (W := 0) (y := mN6) X0 hx hZ hown (hw _ (own_w 66 rfl)) (hw _ (own_w 4 rfl)) (hw _ (own_w 68 rfl)) (hw _ (own_w 67 rfl)) (hw _ (own_w 69 rfl)) (hw _ (own_w 5 rfl)) (by decide) (rmSlot l Z av0 hw [] a0 av al ah au qa qb qc qd vr lw hg uq c1 c2 c3 c4 sz y1 y2 y3 h0 n0 Z0 hD) (by decide) (by decide) hD.E (g := (mkF m 4 #[rv a0, iv y1, iv y2, iv y3, iv y4, .unset] [(.int y3), (.int y2), (.int y1), (.ref a0)])) rfl (by rw [hml]; rfl) (argsL := [(.int y1), (.int y2), (.int y3)]) (rest := []) (lenOf pd__III_I rfl) rfl (hb hby d18_4) rfl e0 (by decide : 0 + 0 ≤ _) (by decide : 0 + 0 ≤ _)
  obtain ⟨rfl, N1q, hh1⟩ := hQ1
  have N1 := Fr.app N0 N1q
  have e1 : T1.heap = h0 := hh1
  obtain ⟨T2, X2, e2, st2⟩ := getF X1 hx hZ hown (host := "") (Or.inl (hw _ (own_w 28 rfl))) Via.refl e1 hD.Fqa (g := (mkF m 10 #[rv a0, iv y1, iv y2, iv y3, iv y4, iv ((own_n (own_cs y1 y2 y3)))] [(.ref a0)])) rfl rfl (hb hby d18_10)
  obtain ⟨kc3, cl3, Ar3, qk3, Sz3, Ng3, Hs3, Gs3⟩ := id hD.Aqa
  have hin3 : ¬ ((own_n (own_cs y1 y2 y3)) < 0 ∨ cl3.slots.size ≤ ((own_n (own_cs y1 y2 y3))).toNatClampNeg) := own_inb (n := 1024) (k := (own_cs y1 y2 y3)) Sz3 (by decide) (own_csl _ _ _)
  obtain ⟨T4, h4, X4, e4, W4, st4⟩ := stI X2 hx hZ e2 Ar3 (j := (own_n (own_cs y1 y2 y3))) hin3 (g := (mkF m 16 #[rv a0, iv y1, iv y2, iv y3, iv y4, iv ((own_n (own_cs y1 y2 y3)))] [(.int y1), (.int (own_n (own_cs y1 y2 y3))), (.ref qa)])) rfl rfl (hb hby d18_16)
  have N4 := Fr.snoc X4 N1 (hS.ge _ (List.mem_of_getElem? (i := 5) rfl))
  have Z4 : n0 ≤ h4.size := Nat.le_trans Z0 (Nat.le_of_eq W4.size.symm)
  have K4 : Keep h0 h4 [a0, av, al, ah, au, qa, qb, qc, qd] := (Keep.refl h0 [a0, av, al, ah, au, qa, qb, qc, qd]).wr W4 (Or.inl (List.mem_of_getElem? (i := 5) rfl))
  have V4 : own_Ar Z h4 qa 1024 (own_up c1 (own_cs y1 y2 y3) y1) := own_arset (g := c1) (k := (own_cs y1 y2 y3)) Ar3 qk3 Sz3 Ng3 Hs3 Gs3 W4 (by decide) (own_csl _ _ _)
  have f5 := (hD.Fqb.other W4 (Or.inl (own_nd hS.nd 0 5 (by decide) rfl rfl)))
  obtain ⟨T6, X6, e6, st6⟩ := getF X4 hx hZ hown (host := "") (Or.inl (hw _ (own_w 30 rfl))) Via.refl e4 f5 (g := (mkF m 18 #[rv a0, iv y1, iv y2, iv y3, iv y4, iv ((own_n (own_cs y1 y2 y3)))] [(.ref a0)])) rfl rfl (hb hby d18_18)
  have f7 := (hD.Aqb.other W4 (Ne.symm (own_nd hS.nd 5 6 (by decide) rfl rfl)))
  obtain ⟨kc8, cl8, Ar8, qk8, Sz8, Ng8, Hs8, Gs8⟩ := id f7
  have hin8 : ¬ ((own_n (own_cs y1 y2 y3)) < 0 ∨ cl8.slots.size ≤ ((own_n (own_cs y1 y2 y3))).toNatClampNeg) := own_inb (n := 1024) (k := (own_cs y1 y2 y3)) Sz8 (by decide) (own_csl _ _ _)
  obtain ⟨T9, h9, X9, e9, W9, st9⟩ := stI X6 hx hZ e6 Ar8 (j := (own_n (own_cs y1 y2 y3))) hin8 (g := (mkF m 24 #[rv a0, iv y1, iv y2, iv y3, iv y4, iv ((own_n (own_cs y1 y2 y3)))] [(.int y2), (.int (own_n (own_cs y1 y2 y3))), (.ref qb)])) rfl rfl (hb hby d18_24)
  have N9 := Fr.snoc X9 N4 (hS.ge _ (List.mem_of_getElem? (i := 6) rfl))
  have Z9 : n0 ≤ h9.size := Nat.le_trans Z4 (Nat.le_of_eq W9.size.symm)
  have K9 : Keep h0 h9 [a0, av, al, ah, au, qa, qb, qc, qd] := K4.wr W9 (Or.inl (List.mem_of_getElem? (i := 6) rfl))
  have V9 : own_Ar Z h9 qb 1024 (own_up c2 (own_cs y1 y2 y3) y2) := own_arset (g := c2) (k := (own_cs y1 y2 y3)) Ar8 qk8 Sz8 Ng8 Hs8 Gs8 W9 (by decide) (own_csl _ _ _)
  have f10 := ((hD.Fqc.other W4 (Or.inl (own_nd hS.nd 0 5 (by decide) rfl rfl))).other W9 (Or.inl (own_nd hS.nd 0 6 (by decide) rfl rfl)))
  obtain ⟨T11, X11, e11, st11⟩ := getF X9 hx hZ hown (host := "") (Or.inl (hw _ (own_w 32 rfl))) Via.refl e9 f10 (g := (mkF m 26 #[rv a0, iv y1, iv y2, iv y3, iv y4, iv ((own_n (own_cs y1 y2 y3)))] [(.ref a0)])) rfl rfl (hb hby d18_26)
  have f12 := ((hD.Aqc.other W4 (Ne.symm (own_nd hS.nd 5 7 (by decide) rfl rfl))).other W9 (Ne.symm (own_nd hS.nd 6 7 (by decide) rfl rfl)))
  obtain ⟨kc13, cl13, Ar13, qk13, Sz13, Ng13, Hs13, Gs13⟩ := id f12
  have hin13 : ¬ ((own_n (own_cs y1 y2 y3)) < 0 ∨ cl13.slots.size ≤ ((own_n (own_cs y1 y2 y3))).toNatClampNeg) := own_inb (n := 1024) (k := (own_cs y1 y2 y3)) Sz13 (by decide) (own_csl _ _ _)
  obtain ⟨T14, h14, X14, e14, W14, st14⟩ := stI X11 hx hZ e11 Ar13 (j := (own_n (own_cs y1 y2 y3))) hin13 (g := (mkF m 32 #[rv a0, iv y1, iv y2, iv y3, iv y4, iv ((own_n (own_cs y1 y2 y3)))] [(.int y3), (.int (own_n (own_cs y1 y2 y3))), (.ref qc)])) rfl rfl (hb hby d18_32)
  have N14 := Fr.snoc X14 N9 (hS.ge _ (List.mem_of_getElem? (i := 7) rfl))
  have Z14 : n0 ≤ h14.size := Nat.le_trans Z9 (Nat.le_of_eq W14.size.symm)
  have K14 : Keep h0 h14 [a0, av, al, ah, au, qa, qb, qc, qd] := K9.wr W14 (Or.inl (List.mem_of_getElem? (i := 7) rfl))
  have V14 : own_Ar Z h14 qc 1024 (own_up c3 (own_cs y1 y2 y3) y3) := own_arset (g := c3) (k := (own_cs y1 y2 y3)) Ar13 qk13 Sz13 Ng13 Hs13 Gs13 W14 (by decide) (own_csl _ _ _)
  have f15 := (((hD.Fqd.other W4 (Or.inl (own_nd hS.nd 0 5 (by decide) rfl rfl))).other W9 (Or.inl (own_nd hS.nd 0 6 (by decide) rfl rfl))).other W14 (Or.inl (own_nd hS.nd 0 7 (by decide) rfl rfl)))
  obtain ⟨T16, X16, e16, st16⟩ := getF X14 hx hZ hown (host := "") (Or.inl (hw _ (own_w 34 rfl))) Via.refl e14 f15 (g := (mkF m 34 #[rv a0, iv y1, iv y2, iv y3, iv y4, iv ((own_n (own_cs y1 y2 y3)))] [(.ref a0)])) rfl rfl (hb hby d18_34)
  have f17 := (((hD.Aqd.other W4 (Ne.symm (own_nd hS.nd 5 8 (by decide) rfl rfl))).other W9 (Ne.symm (own_nd hS.nd 6 8 (by decide) rfl rfl))).other W14 (Ne.symm (own_nd hS.nd 7 8 (by decide) rfl rfl)))
  obtain ⟨kc18, cl18, Ar18, qk18, Sz18, Ng18, Hs18, Gs18⟩ := id f17
  have hin18 : ¬ ((own_n (own_cs y1 y2 y3)) < 0 ∨ cl18.slots.size ≤ ((own_n (own_cs y1 y2 y3))).toNatClampNeg) := own_inb (n := 1024) (k := (own_cs y1 y2 y3)) Sz18 (by decide) (own_csl _ _ _)
  obtain ⟨T19, h19, X19, e19, W19, st19⟩ := stI X16 hx hZ e16 Ar18 (j := (own_n (own_cs y1 y2 y3))) hin18 (g := (mkF m 41 #[rv a0, iv y1, iv y2, iv y3, iv y4, iv ((own_n (own_cs y1 y2 y3)))] [(.int y4), (.int (own_n (own_cs y1 y2 y3))), (.ref qd)])) rfl rfl (hb hby d18_41)
  have N19 := Fr.snoc X19 N14 (hS.ge _ (List.mem_of_getElem? (i := 8) rfl))
  have Z19 : n0 ≤ h19.size := Nat.le_trans Z14 (Nat.le_of_eq W19.size.symm)
  have K19 : Keep h0 h19 [a0, av, al, ah, au, qa, qb, qc, qd] := K14.wr W19 (Or.inl (List.mem_of_getElem? (i := 8) rfl))
  have V19 : own_Ar Z h19 qd 1024 (own_up c4 (own_cs y1 y2 y3) y4) := own_arset (g := c4) (k := (own_cs y1 y2 y3)) Ar18 qk18 Sz18 Ng18 Hs18 Gs18 W19 (by decide) (own_csl _ _ _)
  have S20 : ∀ tz, oS p e below T19 (mkF m 42 #[rv a0, iv y1, iv y2, iv y3, iv y4, iv ((own_n (own_cs y1 y2 y3)))] []) tz → oS p e below s₁ (mkF m 0 #[rv a0, iv y1, iv y2, iv y3, iv y4, .unset] []) tz := fun tz kz => id (by
    show oS p e below s₁ (mkF m 0 #[rv a0, iv y1, iv y2, iv y3, iv y4, .unset] []) _
    refine XS.aloadN X0.here hx rfl (hb hby d18_0) rfl rfl ?_
    refine XS.iloadN X0.here hx rfl (hb hby d18_1) rfl ?_
    refine XS.iloadN X0.here hx rfl (hb hby d18_2) rfl ?_
    refine XS.iloadN X0.here hx rfl (hb hby d18_3) rfl ?_
    refine st1 _ ?_
    refine XS.istore X1.here hx rfl (hb hby d18_7) rfl (l' := #[rv a0, iv y1, iv y2, iv y3, iv y4, iv ((own_n (own_cs y1 y2 y3)))]) rfl ?_
    refine XS.aloadN X1.here hx rfl (hb hby d18_9) rfl rfl ?_
    refine st2 _ ?_
    refine XS.iload X2.here hx rfl (hb hby d18_13) rfl ?_
    refine XS.iloadN X2.here hx rfl (hb hby d18_15) rfl ?_
    show oS p e below T2 (mkF m 16 #[rv a0, iv y1, iv y2, iv y3, iv y4, iv ((own_n (own_cs y1 y2 y3)))] [(.int y1), (.int (own_n (own_cs y1 y2 y3))), (.ref qa)]) _
    refine st4 _ ?_
    refine XS.aloadN X4.here hx rfl (hb hby d18_17) rfl rfl ?_
    refine st6 _ ?_
    refine XS.iload X6.here hx rfl (hb hby d18_21) rfl ?_
    refine XS.iloadN X6.here hx rfl (hb hby d18_23) rfl ?_
    refine st9 _ ?_
    refine XS.aloadN X9.here hx rfl (hb hby d18_25) rfl rfl ?_
    refine st11 _ ?_
    refine XS.iload X11.here hx rfl (hb hby d18_29) rfl ?_
    refine XS.iloadN X11.here hx rfl (hb hby d18_31) rfl ?_
    show oS p e below T11 (mkF m 32 #[rv a0, iv y1, iv y2, iv y3, iv y4, iv ((own_n (own_cs y1 y2 y3)))] [(.int y3), (.int (own_n (own_cs y1 y2 y3))), (.ref qc)]) _
    refine st14 _ ?_
    refine XS.aloadN X14.here hx rfl (hb hby d18_33) rfl rfl ?_
    refine st16 _ ?_
    refine XS.iload X16.here hx rfl (hb hby d18_37) rfl ?_
    refine XS.iload X16.here hx rfl (hb hby d18_39) rfl ?_
    refine st19 _ ?_
    exact kz)
  obtain ⟨fs, hr, hrun, hended, hW, hsame⟩ := X19.leave (v := none) (fun _ => rfl)
  refine ⟨_, _, pre0 _ (S20 _ ?_), hrun, hended, _, _, rfl, ?_, ⟨_, rfl⟩, hW, hsame.mono (by decide) (by decide)⟩
  · exact X19.returnOut hx Bd.returns (hb hby d18_42) hr
  have f21 := ((((hD.E.wr W4).wr W9).wr W14).wr W19)
  have f22 := ((((hD.Fav.other W4 (Or.inl (own_nd hS.nd 0 5 (by decide) rfl rfl))).other W9 (Or.inl (own_nd hS.nd 0 6 (by decide) rfl rfl))).other W14 (Or.inl (own_nd hS.nd 0 7 (by decide) rfl rfl))).other W19 (Or.inl (own_nd hS.nd 0 8 (by decide) rfl rfl)))
  have f23 := ((((hD.Fal.other W4 (Or.inl (own_nd hS.nd 0 5 (by decide) rfl rfl))).other W9 (Or.inl (own_nd hS.nd 0 6 (by decide) rfl rfl))).other W14 (Or.inl (own_nd hS.nd 0 7 (by decide) rfl rfl))).other W19 (Or.inl (own_nd hS.nd 0 8 (by decide) rfl rfl)))
  have f24 := ((((hD.Fah.other W4 (Or.inl (own_nd hS.nd 0 5 (by decide) rfl rfl))).other W9 (Or.inl (own_nd hS.nd 0 6 (by decide) rfl rfl))).other W14 (Or.inl (own_nd hS.nd 0 7 (by decide) rfl rfl))).other W19 (Or.inl (own_nd hS.nd 0 8 (by decide) rfl rfl)))
  have f25 := ((((hD.Fau.other W4 (Or.inl (own_nd hS.nd 0 5 (by decide) rfl rfl))).other W9 (Or.inl (own_nd hS.nd 0 6 (by decide) rfl rfl))).other W14 (Or.inl (own_nd hS.nd 0 7 (by decide) rfl rfl))).other W19 (Or.inl (own_nd hS.nd 0 8 (by decide) rfl rfl)))
  have f26 := ((((hD.Fqa.other W4 (Or.inl (own_nd hS.nd 0 5 (by decide) rfl rfl))).other W9 (Or.inl (own_nd hS.nd 0 6 (by decide) rfl rfl))).other W14 (Or.inl (own_nd hS.nd 0 7 (by decide) rfl rfl))).other W19 (Or.inl (own_nd hS.nd 0 8 (by decide) rfl rfl)))
  have f27 := (((f5.other W9 (Or.inl (own_nd hS.nd 0 6 (by decide) rfl rfl))).other W14 (Or.inl (own_nd hS.nd 0 7 (by decide) rfl rfl))).other W19 (Or.inl (own_nd hS.nd 0 8 (by decide) rfl rfl)))
  have f28 := ((f10.other W14 (Or.inl (own_nd hS.nd 0 7 (by decide) rfl rfl))).other W19 (Or.inl (own_nd hS.nd 0 8 (by decide) rfl rfl)))
  have f29 := (f15.other W19 (Or.inl (own_nd hS.nd 0 8 (by decide) rfl rfl)))
  have f30 := ((((hD.Fs.other W4 (Or.inl (own_nd hS.nd 0 5 (by decide) rfl rfl))).other W9 (Or.inl (own_nd hS.nd 0 6 (by decide) rfl rfl))).other W14 (Or.inl (own_nd hS.nd 0 7 (by decide) rfl rfl))).other W19 (Or.inl (own_nd hS.nd 0 8 (by decide) rfl rfl)))
  have f31 := ((((hD.Aav.other W4 (own_nd hS.nd 1 5 (by decide) rfl rfl)).other W9 (own_nd hS.nd 1 6 (by decide) rfl rfl)).other W14 (own_nd hS.nd 1 7 (by decide) rfl rfl)).other W19 (own_nd hS.nd 1 8 (by decide) rfl rfl))
  have f32 := ((((hD.Aal.other W4 (own_nd hS.nd 2 5 (by decide) rfl rfl)).other W9 (own_nd hS.nd 2 6 (by decide) rfl rfl)).other W14 (own_nd hS.nd 2 7 (by decide) rfl rfl)).other W19 (own_nd hS.nd 2 8 (by decide) rfl rfl))
  have f33 := ((((hD.Aah.other W4 (own_nd hS.nd 3 5 (by decide) rfl rfl)).other W9 (own_nd hS.nd 3 6 (by decide) rfl rfl)).other W14 (own_nd hS.nd 3 7 (by decide) rfl rfl)).other W19 (own_nd hS.nd 3 8 (by decide) rfl rfl))
  have f34 := ((((hD.Aau.other W4 (own_nd hS.nd 4 5 (by decide) rfl rfl)).other W9 (own_nd hS.nd 4 6 (by decide) rfl rfl)).other W14 (own_nd hS.nd 4 7 (by decide) rfl rfl)).other W19 (own_nd hS.nd 4 8 (by decide) rfl rfl))
  have f35 := (((V4.other W9 (own_nd hS.nd 5 6 (by decide) rfl rfl)).other W14 (own_nd hS.nd 5 7 (by decide) rfl rfl)).other W19 (own_nd hS.nd 5 8 (by decide) rfl rfl))
  have f36 := ((V9.other W14 (own_nd hS.nd 6 7 (by decide) rfl rfl)).other W19 (own_nd hS.nd 6 8 (by decide) rfl rfl))
  have f37 := (V14.other W19 (own_nd hS.nd 7 8 (by decide) rfl rfl))
  have D38 : own_Dia Z h19 a0 av al ah au qa qb qc qd vr lw hg uq (own_up c1 (own_cs y1 y2 y3) y1) (own_up c2 (own_cs y1 y2 y3) y2) (own_up c3 (own_cs y1 y2 y3) y3) (own_up c4 (own_cs y1 y2 y3) y4) sz := own_Dia.mk f21 f22 f23 f24 f25 f26 f27 f28 f29 f30 f31 f32 f33 f34 f35 f36 f37 V19
  · show QrmRem Z a0 av al ah au qa qb qc qd vr lw hg uq c1 c2 c3 c4 sz y1 y2 y3 y4 h0 n0 _ T19.heap _
    rw [e19]
    exact ⟨rfl, N19, K19, D38⟩
def own_Frm (Z : State) (h : Heap) (b0 bf bg bh bv bi bl : Addr) (Ff Fg Fh Fv Fi Fl : Nat → Int32) (dp : Nat) : Prop := (Exa Z h b0 "com/example/prolong/prolong/tree/DecisionDiagram$Frames") ∧ (Fld Z h b0 "com/example/prolong/prolong/tree/DecisionDiagram$Frames" "f" "[I" (.ref bf)) ∧ (Fld Z h b0 "com/example/prolong/prolong/tree/DecisionDiagram$Frames" "g" "[I" (.ref bg)) ∧ (Fld Z h b0 "com/example/prolong/prolong/tree/DecisionDiagram$Frames" "h" "[I" (.ref bh)) ∧ (Fld Z h b0 "com/example/prolong/prolong/tree/DecisionDiagram$Frames" "variable" "[I" (.ref bv)) ∧ (Fld Z h b0 "com/example/prolong/prolong/tree/DecisionDiagram$Frames" "high" "[I" (.ref bi)) ∧ (Fld Z h b0 "com/example/prolong/prolong/tree/DecisionDiagram$Frames" "low" "[I" (.ref bl)) ∧ (Fld Z h b0 "com/example/prolong/prolong/tree/DecisionDiagram$Frames" "depth" "I" (.int (own_n dp))) ∧ (own_Ar Z h bf 16 Ff) ∧ (own_Ar Z h bg 16 Fg) ∧ (own_Ar Z h bh 16 Fh) ∧ (own_Ar Z h bv 16 Fv) ∧ (own_Ar Z h bi 16 Fi) ∧ (own_Ar Z h bl 16 Fl)
theorem own_Frm.mk {Z : State} {h : Heap} {b0 bf bg bh bv bi bl : Addr} {Ff Fg Fh Fv Fi Fl : Nat → Int32} {dp : Nat} (z0 : Exa Z h b0 "com/example/prolong/prolong/tree/DecisionDiagram$Frames") (z1 : Fld Z h b0 "com/example/prolong/prolong/tree/DecisionDiagram$Frames" "f" "[I" (.ref bf)) (z2 : Fld Z h b0 "com/example/prolong/prolong/tree/DecisionDiagram$Frames" "g" "[I" (.ref bg)) (z3 : Fld Z h b0 "com/example/prolong/prolong/tree/DecisionDiagram$Frames" "h" "[I" (.ref bh)) (z4 : Fld Z h b0 "com/example/prolong/prolong/tree/DecisionDiagram$Frames" "variable" "[I" (.ref bv)) (z5 : Fld Z h b0 "com/example/prolong/prolong/tree/DecisionDiagram$Frames" "high" "[I" (.ref bi)) (z6 : Fld Z h b0 "com/example/prolong/prolong/tree/DecisionDiagram$Frames" "low" "[I" (.ref bl)) (z7 : Fld Z h b0 "com/example/prolong/prolong/tree/DecisionDiagram$Frames" "depth" "I" (.int (own_n dp))) (z8 : own_Ar Z h bf 16 Ff) (z9 : own_Ar Z h bg 16 Fg) (z10 : own_Ar Z h bh 16 Fh) (z11 : own_Ar Z h bv 16 Fv) (z12 : own_Ar Z h bi 16 Fi) (z13 : own_Ar Z h bl 16 Fl) : own_Frm Z h b0 bf bg bh bv bi bl Ff Fg Fh Fv Fi Fl dp := ⟨z0, z1, z2, z3, z4, z5, z6, z7, z8, z9, z10, z11, z12, z13⟩
theorem own_Frm.E {Z : State} {h : Heap} {b0 bf bg bh bv bi bl : Addr} {Ff Fg Fh Fv Fi Fl : Nat → Int32} {dp : Nat} (D : own_Frm Z h b0 bf bg bh bv bi bl Ff Fg Fh Fv Fi Fl dp) : Exa Z h b0 "com/example/prolong/prolong/tree/DecisionDiagram$Frames" := by obtain ⟨z, -, -, -, -, -, -, -, -, -, -, -, -, -⟩ := D; exact z
theorem own_Frm.Fbf {Z : State} {h : Heap} {b0 bf bg bh bv bi bl : Addr} {Ff Fg Fh Fv Fi Fl : Nat → Int32} {dp : Nat} (D : own_Frm Z h b0 bf bg bh bv bi bl Ff Fg Fh Fv Fi Fl dp) : Fld Z h b0 "com/example/prolong/prolong/tree/DecisionDiagram$Frames" "f" "[I" (.ref bf) := by obtain ⟨-, z, -, -, -, -, -, -, -, -, -, -, -, -⟩ := D; exact z
theorem own_Frm.Fbg {Z : State} {h : Heap} {b0 bf bg bh bv bi bl : Addr} {Ff Fg Fh Fv Fi Fl : Nat → Int32} {dp : Nat} (D : own_Frm Z h b0 bf bg bh bv bi bl Ff Fg Fh Fv Fi Fl dp) : Fld Z h b0 "com/example/prolong/prolong/tree/DecisionDiagram$Frames" "g" "[I" (.ref bg) := by obtain ⟨-, -, z, -, -, -, -, -, -, -, -, -, -, -⟩ := D; exact z
theorem own_Frm.Fbh {Z : State} {h : Heap} {b0 bf bg bh bv bi bl : Addr} {Ff Fg Fh Fv Fi Fl : Nat → Int32} {dp : Nat} (D : own_Frm Z h b0 bf bg bh bv bi bl Ff Fg Fh Fv Fi Fl dp) : Fld Z h b0 "com/example/prolong/prolong/tree/DecisionDiagram$Frames" "h" "[I" (.ref bh) := by obtain ⟨-, -, -, z, -, -, -, -, -, -, -, -, -, -⟩ := D; exact z
theorem own_Frm.Fbv {Z : State} {h : Heap} {b0 bf bg bh bv bi bl : Addr} {Ff Fg Fh Fv Fi Fl : Nat → Int32} {dp : Nat} (D : own_Frm Z h b0 bf bg bh bv bi bl Ff Fg Fh Fv Fi Fl dp) : Fld Z h b0 "com/example/prolong/prolong/tree/DecisionDiagram$Frames" "variable" "[I" (.ref bv) := by obtain ⟨-, -, -, -, z, -, -, -, -, -, -, -, -, -⟩ := D; exact z
theorem own_Frm.Fbi {Z : State} {h : Heap} {b0 bf bg bh bv bi bl : Addr} {Ff Fg Fh Fv Fi Fl : Nat → Int32} {dp : Nat} (D : own_Frm Z h b0 bf bg bh bv bi bl Ff Fg Fh Fv Fi Fl dp) : Fld Z h b0 "com/example/prolong/prolong/tree/DecisionDiagram$Frames" "high" "[I" (.ref bi) := by obtain ⟨-, -, -, -, -, z, -, -, -, -, -, -, -, -⟩ := D; exact z
theorem own_Frm.Fbl {Z : State} {h : Heap} {b0 bf bg bh bv bi bl : Addr} {Ff Fg Fh Fv Fi Fl : Nat → Int32} {dp : Nat} (D : own_Frm Z h b0 bf bg bh bv bi bl Ff Fg Fh Fv Fi Fl dp) : Fld Z h b0 "com/example/prolong/prolong/tree/DecisionDiagram$Frames" "low" "[I" (.ref bl) := by obtain ⟨-, -, -, -, -, -, z, -, -, -, -, -, -, -⟩ := D; exact z
theorem own_Frm.Fs {Z : State} {h : Heap} {b0 bf bg bh bv bi bl : Addr} {Ff Fg Fh Fv Fi Fl : Nat → Int32} {dp : Nat} (D : own_Frm Z h b0 bf bg bh bv bi bl Ff Fg Fh Fv Fi Fl dp) : Fld Z h b0 "com/example/prolong/prolong/tree/DecisionDiagram$Frames" "depth" "I" (.int (own_n dp)) := by obtain ⟨-, -, -, -, -, -, -, z, -, -, -, -, -, -⟩ := D; exact z
theorem own_Frm.Abf {Z : State} {h : Heap} {b0 bf bg bh bv bi bl : Addr} {Ff Fg Fh Fv Fi Fl : Nat → Int32} {dp : Nat} (D : own_Frm Z h b0 bf bg bh bv bi bl Ff Fg Fh Fv Fi Fl dp) : own_Ar Z h bf 16 Ff := by obtain ⟨-, -, -, -, -, -, -, -, z, -, -, -, -, -⟩ := D; exact z
theorem own_Frm.Abg {Z : State} {h : Heap} {b0 bf bg bh bv bi bl : Addr} {Ff Fg Fh Fv Fi Fl : Nat → Int32} {dp : Nat} (D : own_Frm Z h b0 bf bg bh bv bi bl Ff Fg Fh Fv Fi Fl dp) : own_Ar Z h bg 16 Fg := by obtain ⟨-, -, -, -, -, -, -, -, -, z, -, -, -, -⟩ := D; exact z
theorem own_Frm.Abh {Z : State} {h : Heap} {b0 bf bg bh bv bi bl : Addr} {Ff Fg Fh Fv Fi Fl : Nat → Int32} {dp : Nat} (D : own_Frm Z h b0 bf bg bh bv bi bl Ff Fg Fh Fv Fi Fl dp) : own_Ar Z h bh 16 Fh := by obtain ⟨-, -, -, -, -, -, -, -, -, -, z, -, -, -⟩ := D; exact z
theorem own_Frm.Abv {Z : State} {h : Heap} {b0 bf bg bh bv bi bl : Addr} {Ff Fg Fh Fv Fi Fl : Nat → Int32} {dp : Nat} (D : own_Frm Z h b0 bf bg bh bv bi bl Ff Fg Fh Fv Fi Fl dp) : own_Ar Z h bv 16 Fv := by obtain ⟨-, -, -, -, -, -, -, -, -, -, -, z, -, -⟩ := D; exact z
theorem own_Frm.Abi {Z : State} {h : Heap} {b0 bf bg bh bv bi bl : Addr} {Ff Fg Fh Fv Fi Fl : Nat → Int32} {dp : Nat} (D : own_Frm Z h b0 bf bg bh bv bi bl Ff Fg Fh Fv Fi Fl dp) : own_Ar Z h bi 16 Fi := by obtain ⟨-, -, -, -, -, -, -, -, -, -, -, -, z, -⟩ := D; exact z
theorem own_Frm.Abl {Z : State} {h : Heap} {b0 bf bg bh bv bi bl : Addr} {Ff Fg Fh Fv Fi Fl : Nat → Int32} {dp : Nat} (D : own_Frm Z h b0 bf bg bh bv bi bl Ff Fg Fh Fv Fi Fl dp) : own_Ar Z h bl 16 Fl := by obtain ⟨-, -, -, -, -, -, -, -, -, -, -, -, -, z⟩ := D; exact z
theorem own_Frm.ext {Z : State} {h h' : Heap} {b0 bf bg bh bv bi bl : Addr} {Ff Fg Fh Fv Fi Fl : Nat → Int32} {dp : Nat} (D : own_Frm Z h b0 bf bg bh bv bi bl Ff Fg Fh Fv Fi Fl dp) (E : Ext h h') : own_Frm Z h' b0 bf bg bh bv bi bl Ff Fg Fh Fv Fi Fl dp := own_Frm.mk (D.E.ext E) (D.Fbf.ext E) (D.Fbg.ext E) (D.Fbh.ext E) (D.Fbv.ext E) (D.Fbi.ext E) (D.Fbl.ext E) (D.Fs.ext E) (D.Abf.ext E) (D.Abg.ext E) (D.Abh.ext E) (D.Abv.ext E) (D.Abi.ext E) (D.Abl.ext E)
theorem own_Frm.keep {Z : State} {h h' : Heap} {b0 bf bg bh bv bi bl : Addr} {Ff Fg Fh Fv Fi Fl : Nat → Int32} {dp : Nat} {ws : List Addr} (D : own_Frm Z h b0 bf bg bh bv bi bl Ff Fg Fh Fv Fi Fl dp) (K : Keep h h' ws) (q : ∀ y ∈ [b0, bf, bg, bh, bv, bi, bl], y ∉ ws) : own_Frm Z h' b0 bf bg bh bv bi bl Ff Fg Fh Fv Fi Fl dp := own_Frm.mk (D.E.keep K) (D.Fbf.keep K (q _ (List.mem_of_getElem? (i := 0) rfl))) (D.Fbg.keep K (q _ (List.mem_of_getElem? (i := 0) rfl))) (D.Fbh.keep K (q _ (List.mem_of_getElem? (i := 0) rfl))) (D.Fbv.keep K (q _ (List.mem_of_getElem? (i := 0) rfl))) (D.Fbi.keep K (q _ (List.mem_of_getElem? (i := 0) rfl))) (D.Fbl.keep K (q _ (List.mem_of_getElem? (i := 0) rfl))) (D.Fs.keep K (q _ (List.mem_of_getElem? (i := 0) rfl))) (D.Abf.keep K (q _ (List.mem_of_getElem? (i := 1) rfl))) (D.Abg.keep K (q _ (List.mem_of_getElem? (i := 2) rfl))) (D.Abh.keep K (q _ (List.mem_of_getElem? (i := 3) rfl))) (D.Abv.keep K (q _ (List.mem_of_getElem? (i := 4) rfl))) (D.Abi.keep K (q _ (List.mem_of_getElem? (i := 5) rfl))) (D.Abl.keep K (q _ (List.mem_of_getElem? (i := 6) rfl)))
theorem own_Frm.lt {Z : State} {h : Heap} {b0 bf bg bh bv bi bl : Addr} {Ff Fg Fh Fv Fi Fl : Nat → Int32} {dp : Nat} (D : own_Frm Z h b0 bf bg bh bv bi bl Ff Fg Fh Fv Fi Fl dp) : ∀ y ∈ [b0, bf, bg, bh, bv, bi, bl], y < h.size := (allS D.E.lt (allS D.Abf.lt (allS D.Abg.lt (allS D.Abh.lt (allS D.Abv.lt (allS D.Abi.lt (allS D.Abl.lt all0)))))))
theorem own_Frm.ns {Z : State} {h : Heap} {b0 bf bg bh bv bi bl : Addr} {Ff Fg Fh Fv Fi Fl : Nat → Int32} {dp : Nat} (D : own_Frm Z h b0 bf bg bh bv bi bl Ff Fg Fh Fv Fi Fl dp) : ∀ y ∈ [b0, bf, bg, bh, bv, bi, bl], ∀ c : Cell, h[y]? = some c → c.vm.isStatics = false := (allS (own_exns D.E) (allS D.Abf.ns (allS D.Abg.ns (allS D.Abh.ns (allS D.Abv.ns (allS D.Abi.ns (allS D.Abl.ns all0)))))))
theorem d12_0 : decode prog_73_method_1_code 0 = .ok (.aload_n 0, 1) := by decide +kernel
theorem d12_1 : decode prog_73_method_1_code 1 = .ok (.invokespecial 3, 3) := by decide +kernel
theorem d12_4 : decode prog_73_method_1_code 4 = .ok (.aload_n 0, 1) := by decide +kernel
theorem d12_5 : decode prog_73_method_1_code 5 = .ok (.bipush 16, 2) := by decide +kernel
theorem d12_7 : decode prog_73_method_1_code 7 = .ok (.newarray .int, 2) := by decide +kernel
theorem d12_9 : decode prog_73_method_1_code 9 = .ok (.putfield 9, 3) := by decide +kernel
theorem d12_12 : decode prog_73_method_1_code 12 = .ok (.aload_n 0, 1) := by decide +kernel
theorem d12_13 : decode prog_73_method_1_code 13 = .ok (.bipush 16, 2) := by decide +kernel
theorem d12_15 : decode prog_73_method_1_code 15 = .ok (.newarray .int, 2) := by decide +kernel
theorem d12_17 : decode prog_73_method_1_code 17 = .ok (.putfield 15, 3) := by decide +kernel
theorem d12_20 : decode prog_73_method_1_code 20 = .ok (.aload_n 0, 1) := by decide +kernel
theorem d12_21 : decode prog_73_method_1_code 21 = .ok (.bipush 16, 2) := by decide +kernel
theorem d12_23 : decode prog_73_method_1_code 23 = .ok (.newarray .int, 2) := by decide +kernel
theorem d12_25 : decode prog_73_method_1_code 25 = .ok (.putfield 18, 3) := by decide +kernel
theorem d12_28 : decode prog_73_method_1_code 28 = .ok (.aload_n 0, 1) := by decide +kernel
theorem d12_29 : decode prog_73_method_1_code 29 = .ok (.bipush 16, 2) := by decide +kernel
theorem d12_31 : decode prog_73_method_1_code 31 = .ok (.newarray .int, 2) := by decide +kernel
theorem d12_33 : decode prog_73_method_1_code 33 = .ok (.putfield 21, 3) := by decide +kernel
theorem d12_36 : decode prog_73_method_1_code 36 = .ok (.aload_n 0, 1) := by decide +kernel
theorem d12_37 : decode prog_73_method_1_code 37 = .ok (.bipush 16, 2) := by decide +kernel
theorem d12_39 : decode prog_73_method_1_code 39 = .ok (.newarray .int, 2) := by decide +kernel
theorem d12_41 : decode prog_73_method_1_code 41 = .ok (.putfield 24, 3) := by decide +kernel
theorem d12_44 : decode prog_73_method_1_code 44 = .ok (.aload_n 0, 1) := by decide +kernel
theorem d12_45 : decode prog_73_method_1_code 45 = .ok (.bipush 16, 2) := by decide +kernel
theorem d12_47 : decode prog_73_method_1_code 47 = .ok (.newarray .int, 2) := by decide +kernel
theorem d12_49 : decode prog_73_method_1_code 49 = .ok (.putfield 27, 3) := by decide +kernel
theorem d12_52 : decode prog_73_method_1_code 52 = .ok (.return_, 1) := by decide +kernel
theorem pn_DecisionDiagram_Frames : plainName "com/example/prolong/prolong/tree/DecisionDiagram$Frames" = true := by first | (simp [plainName, overriddenIn]; done) | decide +kernel
def QrmFI (Z : State) (b0 : Addr) (h0 : Heap) (n0 : Nat) (v : Option Value) (h : Heap) (L : List Loc) : Prop := ∃ bf bg bh bv bi bl : Addr, v = none ∧ Fr n0 L ∧ Keep h0 h [b0] ∧ (∀ y ∈ [bf, bg, bh, bv, bi, bl], h0.size ≤ y) ∧ own_Sep n0 [b0, bf, bg, bh, bv, bi, bl] ∧ own_Frm Z h b0 bf bg bh bv bi bl (fun _ => 0) (fun _ => 0) (fun _ => 0) (fun _ => 0) (fun _ => 0) (fun _ => 0) 0
set_option maxRecDepth 65536 in
set_option maxHeartbeats 40000000 in
theorem rmFI (l : Launch) (Z : State) (av0 : Array Value) (hw : ∀ d ∈ tables_1, d.before av0 Z = true) (ws : List Jvm.Cond) (b0 : Addr) (h0 : Heap) (n0 : Nat) (Z0 : n0 ≤ h0.size) (hE : Exa Z h0 b0 "com/example/prolong/prolong/tree/DecisionDiagram$Frames") (hga : n0 ≤ b0) (hF_depth : Fld Z h0 b0 "com/example/prolong/prolong/tree/DecisionDiagram$Frames" "depth" "I" (.int (0 : Int32))) (hF_f : Fld Z h0 b0 "com/example/prolong/prolong/tree/DecisionDiagram$Frames" "f" "[I" .null) (hF_g : Fld Z h0 b0 "com/example/prolong/prolong/tree/DecisionDiagram$Frames" "g" "[I" .null) (hF_h : Fld Z h0 b0 "com/example/prolong/prolong/tree/DecisionDiagram$Frames" "h" "[I" .null) (hF_variable : Fld Z h0 b0 "com/example/prolong/prolong/tree/DecisionDiagram$Frames" "variable" "[I" .null) (hF_high : Fld Z h0 b0 "com/example/prolong/prolong/tree/DecisionDiagram$Frames" "high" "[I" .null) (hF_low : Fld Z h0 b0 "com/example/prolong/prolong/tree/DecisionDiagram$Frames" "low" "[I" .null) :
    own_Met l mN12 prog_73_method_1_code 1 none ws ({ frames := 1, cells := 6, slots := 96, locals := 12 } : Room) #[(.ref b0)] Z h0 (QrmFI Z b0 h0 n0) := by
  refine MetFree.of_bodySF (plainFor_of_name pn_DecisionDiagram_Frames) hisR ?_
  intro p e s m args below meth c s₁ Bd hml0 hP hK
  obtain ⟨rfl, hZ, hh⟩ := hP
  have hml : c.maxLocals = 1 := hml0
  obtain ⟨hx, hby, hown, hnm, X0, e0⟩ := own_start Bd hml0 hh
  have N0 := Fr.nil n0
  have pre0 : ∀ tz, oS p e below s₁ (mkF m 0 #[rv b0] []) tz → Steps p.tables e below (s₁.setTop (entryFrame m #[(.ref b0)] 1)) tz := fun tz kz => castTop (by first | (simp [entryFrame, mkF, argsToLocals, Value.category]; done) | rfl) kz
  obtain ⟨T1, X1, e1, st1⟩ := initO X0 hx hZ hown (hw _ (own_w 76 rfl)) (hw _ (own_w 10 rfl)) (hw _ (own_w 11 rfl)) e0 (g := (mkF m 1 #[rv b0] [(.ref b0)])) rfl (by rw [hml]; rfl) rfl (hb hby d12_1) (by decide) (W := 0) (by show 2 * 0 + _ ≤ _; exact Nat.le_of_eq rfl) (by decide)
  obtain ⟨T2, h2, k2, X2, e2, E2, A2, st2⟩ := newP X1 hx hZ (hw _ (own_w 12 rfl)) e1 (g := (mkF m 7 #[rv b0] [(.int 16), (.ref b0)])) rfl (hb hby d12_7) rfl (by decide) (cap := 16) (by decide) (by decide) (by decide) (by decide)
  obtain ⟨b2, g2⟩ : ∃ z, z = h0.size := ⟨_, rfl⟩
  rw [← g2] at A2 st2
  have ne_b0_b2 : b0 ≠ b2 := Nat.ne_of_lt (Nat.lt_of_lt_of_le hE.lt (Nat.le_of_eq g2.symm))
  have ge_b2 : n0 ≤ b2 := Nat.le_trans Z0 (Nat.le_of_eq g2.symm)
  have sz_b2 : h0.size ≤ b2 := Nat.le_of_eq g2.symm
  have Z2 : n0 ≤ h2.size := Nat.le_trans Z0 E2.1
  have K2 : Keep h0 h2 [b0] := (Keep.refl h0 [b0]).ext E2
  have V2 : own_Ar Z h2 b2 16 (fun _ => 0) := own_new0 16 (by decide) A2
  have f3 := (hF_f.ext E2)
  have f4 := (hE.ext E2)
  obtain ⟨T5, h5, X5, e5, W5, st5⟩ := putF X2 hx hZ hown (host := "") (Or.inl (hw _ (own_w 77 rfl))) Via.refl e2 f3 f4 (Or.inl (hw _ (own_w 78 rfl))) (hw _ (own_w 71 rfl)) (ty := (.array .int)) (by decide) rfl rfl (g := (mkF m 9 #[rv b0] [(.ref b2), (.ref b0)])) rfl rfl (hb hby d12_9)
  have N5 := Fr.snoc X5 N0 hga
  have Z5 : n0 ≤ h5.size := Nat.le_trans Z2 (Nat.le_of_eq W5.size.symm)
  have K5 : Keep h0 h5 [b0] := K2.wr W5 (Or.inl (List.mem_of_getElem? (i := 0) rfl))
  have Fw5 := f3.same W5
  obtain ⟨T6, h6, k6, X6, e6, E6, A6, st6⟩ := newP X5 hx hZ (hw _ (own_w 12 rfl)) e5 (g := (mkF m 15 #[rv b0] [(.int 16), (.ref b0)])) rfl (hb hby d12_15) rfl (by decide) (cap := 16) (by decide) (by decide) (by decide) (by decide)
  obtain ⟨b6, g6⟩ : ∃ z, z = h5.size := ⟨_, rfl⟩
  rw [← g6] at A6 st6
  have f7 := (f4.wr W5)
  have ne_b0_b6 : b0 ≠ b6 := Nat.ne_of_lt (Nat.lt_of_lt_of_le f7.lt (Nat.le_of_eq g6.symm))
  have f8 := (V2.other W5 (Ne.symm ne_b0_b2))
  have ne_b2_b6 : b2 ≠ b6 := Nat.ne_of_lt (Nat.lt_of_lt_of_le f8.lt (Nat.le_of_eq g6.symm))
  have ge_b6 : n0 ≤ b6 := Nat.le_trans Z5 (Nat.le_of_eq g6.symm)
  have sz_b6 : h0.size ≤ b6 := Nat.le_trans K5.1 (Nat.le_of_eq g6.symm)
  have Z6 : n0 ≤ h6.size := Nat.le_trans Z5 E6.1
  have K6 : Keep h0 h6 [b0] := K5.ext E6
  have V6 : own_Ar Z h6 b6 16 (fun _ => 0) := own_new0 16 (by decide) A6
  have f9 := (((hF_g.ext E2).other W5 (Or.inr (slot_ne (Or.inl (hw _ (own_w 80 rfl))) (Or.inl (hw _ (own_w 78 rfl))) (by decide) (t := (.array .int)) (t' := (.array .int)) (by decide) (by decide)))).ext E6)
  have f10 := (f7.ext E6)
  obtain ⟨T11, h11, X11, e11, W11, st11⟩ := putF X6 hx hZ hown (host := "") (Or.inl (hw _ (own_w 79 rfl))) Via.refl e6 f9 f10 (Or.inl (hw _ (own_w 80 rfl))) (hw _ (own_w 71 rfl)) (ty := (.array .int)) (by decide) rfl rfl (g := (mkF m 17 #[rv b0] [(.ref b6), (.ref b0)])) rfl rfl (hb hby d12_17)
  have N11 := Fr.snoc X11 N5 hga
  have Z11 : n0 ≤ h11.size := Nat.le_trans Z6 (Nat.le_of_eq W11.size.symm)
  have K11 : Keep h0 h11 [b0] := K6.wr W11 (Or.inl (List.mem_of_getElem? (i := 0) rfl))
  have Fw11 := f9.same W11
  obtain ⟨T12, h12, k12, X12, e12, E12, A12, st12⟩ := newP X11 hx hZ (hw _ (own_w 12 rfl)) e11 (g := (mkF m 23 #[rv b0] [(.int 16), (.ref b0)])) rfl (hb hby d12_23) rfl (by decide) (cap := 16) (by decide) (by decide) (by decide) (by decide)
  obtain ⟨b12, g12⟩ : ∃ z, z = h11.size := ⟨_, rfl⟩
  rw [← g12] at A12 st12
  have f13 := (f10.wr W11)
  have ne_b0_b12 : b0 ≠ b12 := Nat.ne_of_lt (Nat.lt_of_lt_of_le f13.lt (Nat.le_of_eq g12.symm))
  have f14 := ((f8.ext E6).other W11 (Ne.symm ne_b0_b2))
  have ne_b2_b12 : b2 ≠ b12 := Nat.ne_of_lt (Nat.lt_of_lt_of_le f14.lt (Nat.le_of_eq g12.symm))
  have f15 := (V6.other W11 (Ne.symm ne_b0_b6))
  have ne_b6_b12 : b6 ≠ b12 := Nat.ne_of_lt (Nat.lt_of_lt_of_le f15.lt (Nat.le_of_eq g12.symm))
  have ge_b12 : n0 ≤ b12 := Nat.le_trans Z11 (Nat.le_of_eq g12.symm)
  have sz_b12 : h0.size ≤ b12 := Nat.le_trans K11.1 (Nat.le_of_eq g12.symm)
  have Z12 : n0 ≤ h12.size := Nat.le_trans Z11 E12.1
  have K12 : Keep h0 h12 [b0] := K11.ext E12
  have V12 : own_Ar Z h12 b12 16 (fun _ => 0) := own_new0 16 (by decide) A12
  have f16 := (((((hF_h.ext E2).other W5 (Or.inr (slot_ne (Or.inl (hw _ (own_w 82 rfl))) (Or.inl (hw _ (own_w 78 rfl))) (by decide) (t := (.array .int)) (t' := (.array .int)) (by decide) (by decide)))).ext E6).other W11 (Or.inr (slot_ne (Or.inl (hw _ (own_w 82 rfl))) (Or.inl (hw _ (own_w 80 rfl))) (by decide) (t := (.array .int)) (t' := (.array .int)) (by decide) (by decide)))).ext E12)
  have f17 := (f13.ext E12)
  obtain ⟨T18, h18, X18, e18, W18, st18⟩ := putF X12 hx hZ hown (host := "") (Or.inl (hw _ (own_w 81 rfl))) Via.refl e12 f16 f17 (Or.inl (hw _ (own_w 82 rfl))) (hw _ (own_w 71 rfl)) (ty := (.array .int)) (by decide) rfl rfl (g := (mkF m 25 #[rv b0] [(.ref b12), (.ref b0)])) rfl rfl (hb hby d12_25)
  have N18 := Fr.snoc X18 N11 hga
  have Z18 : n0 ≤ h18.size := Nat.le_trans Z12 (Nat.le_of_eq W18.size.symm)
  have K18 : Keep h0 h18 [b0] := K12.wr W18 (Or.inl (List.mem_of_getElem? (i := 0) rfl))
  have Fw18 := f16.same W18
  obtain ⟨T19, h19, k19, X19, e19, E19, A19, st19⟩ := newP X18 hx hZ (hw _ (own_w 12 rfl)) e18 (g := (mkF m 31 #[rv b0] [(.int 16), (.ref b0)])) rfl (hb hby d12_31) rfl (by decide) (cap := 16) (by decide) (by decide) (by decide) (by decide)
  obtain ⟨b19, g19⟩ : ∃ z, z = h18.size := ⟨_, rfl⟩
  rw [← g19] at A19 st19
  have f20 := (f17.wr W18)
  have ne_b0_b19 : b0 ≠ b19 := Nat.ne_of_lt (Nat.lt_of_lt_of_le f20.lt (Nat.le_of_eq g19.symm))
  have f21 := (V12.other W18 (Ne.symm ne_b0_b12))
  have ne_b12_b19 : b12 ≠ b19 := Nat.ne_of_lt (Nat.lt_of_lt_of_le f21.lt (Nat.le_of_eq g19.symm))
  have f22 := ((f14.ext E12).other W18 (Ne.symm ne_b0_b2))
  have ne_b2_b19 : b2 ≠ b19 := Nat.ne_of_lt (Nat.lt_of_lt_of_le f22.lt (Nat.le_of_eq g19.symm))
  have f23 := ((f15.ext E12).other W18 (Ne.symm ne_b0_b6))
  have ne_b6_b19 : b6 ≠ b19 := Nat.ne_of_lt (Nat.lt_of_lt_of_le f23.lt (Nat.le_of_eq g19.symm))
  have ge_b19 : n0 ≤ b19 := Nat.le_trans Z18 (Nat.le_of_eq g19.symm)
  have sz_b19 : h0.size ≤ b19 := Nat.le_trans K18.1 (Nat.le_of_eq g19.symm)
  have Z19 : n0 ≤ h19.size := Nat.le_trans Z18 E19.1
  have K19 : Keep h0 h19 [b0] := K18.ext E19
  have V19 : own_Ar Z h19 b19 16 (fun _ => 0) := own_new0 16 (by decide) A19
  have f24 := (((((((hF_variable.ext E2).other W5 (Or.inr (slot_ne (Or.inl (hw _ (own_w 84 rfl))) (Or.inl (hw _ (own_w 78 rfl))) (by decide) (t := (.array .int)) (t' := (.array .int)) (by decide) (by decide)))).ext E6).other W11 (Or.inr (slot_ne (Or.inl (hw _ (own_w 84 rfl))) (Or.inl (hw _ (own_w 80 rfl))) (by decide) (t := (.array .int)) (t' := (.array .int)) (by decide) (by decide)))).ext E12).other W18 (Or.inr (slot_ne (Or.inl (hw _ (own_w 84 rfl))) (Or.inl (hw _ (own_w 82 rfl))) (by decide) (t := (.array .int)) (t' := (.array .int)) (by decide) (by decide)))).ext E19)
  have f25 := (f20.ext E19)
  obtain ⟨T26, h26, X26, e26, W26, st26⟩ := putF X19 hx hZ hown (host := "") (Or.inl (hw _ (own_w 83 rfl))) Via.refl e19 f24 f25 (Or.inl (hw _ (own_w 84 rfl))) (hw _ (own_w 71 rfl)) (ty := (.array .int)) (by decide) rfl rfl (g := (mkF m 33 #[rv b0] [(.ref b19), (.ref b0)])) rfl rfl (hb hby d12_33)
  have N26 := Fr.snoc X26 N18 hga
  have Z26 : n0 ≤ h26.size := Nat.le_trans Z19 (Nat.le_of_eq W26.size.symm)
  have K26 : Keep h0 h26 [b0] := K19.wr W26 (Or.inl (List.mem_of_getElem? (i := 0) rfl))
  have Fw26 := f24.same W26
  obtain ⟨T27, h27, k27, X27, e27, E27, A27, st27⟩ := newP X26 hx hZ (hw _ (own_w 12 rfl)) e26 (g := (mkF m 39 #[rv b0] [(.int 16), (.ref b0)])) rfl (hb hby d12_39) rfl (by decide) (cap := 16) (by decide) (by decide) (by decide) (by decide)
  obtain ⟨b27, g27⟩ : ∃ z, z = h26.size := ⟨_, rfl⟩
  rw [← g27] at A27 st27
  have f28 := (f25.wr W26)
  have ne_b0_b27 : b0 ≠ b27 := Nat.ne_of_lt (Nat.lt_of_lt_of_le f28.lt (Nat.le_of_eq g27.symm))
  have f29 := ((f21.ext E19).other W26 (Ne.symm ne_b0_b12))
  have ne_b12_b27 : b12 ≠ b27 := Nat.ne_of_lt (Nat.lt_of_lt_of_le f29.lt (Nat.le_of_eq g27.symm))
  have f30 := (V19.other W26 (Ne.symm ne_b0_b19))
  have ne_b19_b27 : b19 ≠ b27 := Nat.ne_of_lt (Nat.lt_of_lt_of_le f30.lt (Nat.le_of_eq g27.symm))
  have f31 := ((f22.ext E19).other W26 (Ne.symm ne_b0_b2))
  have ne_b2_b27 : b2 ≠ b27 := Nat.ne_of_lt (Nat.lt_of_lt_of_le f31.lt (Nat.le_of_eq g27.symm))
  have f32 := ((f23.ext E19).other W26 (Ne.symm ne_b0_b6))
  have ne_b6_b27 : b6 ≠ b27 := Nat.ne_of_lt (Nat.lt_of_lt_of_le f32.lt (Nat.le_of_eq g27.symm))
  have ge_b27 : n0 ≤ b27 := Nat.le_trans Z26 (Nat.le_of_eq g27.symm)
  have sz_b27 : h0.size ≤ b27 := Nat.le_trans K26.1 (Nat.le_of_eq g27.symm)
  have Z27 : n0 ≤ h27.size := Nat.le_trans Z26 E27.1
  have K27 : Keep h0 h27 [b0] := K26.ext E27
  have V27 : own_Ar Z h27 b27 16 (fun _ => 0) := own_new0 16 (by decide) A27
  have f33 := (((((((((hF_high.ext E2).other W5 (Or.inr (slot_ne (Or.inl (hw _ (own_w 86 rfl))) (Or.inl (hw _ (own_w 78 rfl))) (by decide) (t := (.array .int)) (t' := (.array .int)) (by decide) (by decide)))).ext E6).other W11 (Or.inr (slot_ne (Or.inl (hw _ (own_w 86 rfl))) (Or.inl (hw _ (own_w 80 rfl))) (by decide) (t := (.array .int)) (t' := (.array .int)) (by decide) (by decide)))).ext E12).other W18 (Or.inr (slot_ne (Or.inl (hw _ (own_w 86 rfl))) (Or.inl (hw _ (own_w 82 rfl))) (by decide) (t := (.array .int)) (t' := (.array .int)) (by decide) (by decide)))).ext E19).other W26 (Or.inr (slot_ne (Or.inl (hw _ (own_w 86 rfl))) (Or.inl (hw _ (own_w 84 rfl))) (by decide) (t := (.array .int)) (t' := (.array .int)) (by decide) (by decide)))).ext E27)
  have f34 := (f28.ext E27)
  obtain ⟨T35, h35, X35, e35, W35, st35⟩ := putF X27 hx hZ hown (host := "") (Or.inl (hw _ (own_w 85 rfl))) Via.refl e27 f33 f34 (Or.inl (hw _ (own_w 86 rfl))) (hw _ (own_w 71 rfl)) (ty := (.array .int)) (by decide) rfl rfl (g := (mkF m 41 #[rv b0] [(.ref b27), (.ref b0)])) rfl rfl (hb hby d12_41)
  have N35 := Fr.snoc X35 N26 hga
  have Z35 : n0 ≤ h35.size := Nat.le_trans Z27 (Nat.le_of_eq W35.size.symm)
  have K35 : Keep h0 h35 [b0] := K27.wr W35 (Or.inl (List.mem_of_getElem? (i := 0) rfl))
  have Fw35 := f33.same W35
  obtain ⟨T36, h36, k36, X36, e36, E36, A36, st36⟩ := newP X35 hx hZ (hw _ (own_w 12 rfl)) e35 (g := (mkF m 47 #[rv b0] [(.int 16), (.ref b0)])) rfl (hb hby d12_47) rfl (by decide) (cap := 16) (by decide) (by decide) (by decide) (by decide)
  obtain ⟨b36, g36⟩ : ∃ z, z = h35.size := ⟨_, rfl⟩
  rw [← g36] at A36 st36
  have f37 := (f34.wr W35)
  have ne_b0_b36 : b0 ≠ b36 := Nat.ne_of_lt (Nat.lt_of_lt_of_le f37.lt (Nat.le_of_eq g36.symm))
  have f38 := ((f29.ext E27).other W35 (Ne.symm ne_b0_b12))
  have ne_b12_b36 : b12 ≠ b36 := Nat.ne_of_lt (Nat.lt_of_lt_of_le f38.lt (Nat.le_of_eq g36.symm))
  have f39 := ((f30.ext E27).other W35 (Ne.symm ne_b0_b19))
  have ne_b19_b36 : b19 ≠ b36 := Nat.ne_of_lt (Nat.lt_of_lt_of_le f39.lt (Nat.le_of_eq g36.symm))
  have f40 := ((f31.ext E27).other W35 (Ne.symm ne_b0_b2))
  have ne_b2_b36 : b2 ≠ b36 := Nat.ne_of_lt (Nat.lt_of_lt_of_le f40.lt (Nat.le_of_eq g36.symm))
  have f41 := (V27.other W35 (Ne.symm ne_b0_b27))
  have ne_b27_b36 : b27 ≠ b36 := Nat.ne_of_lt (Nat.lt_of_lt_of_le f41.lt (Nat.le_of_eq g36.symm))
  have f42 := ((f32.ext E27).other W35 (Ne.symm ne_b0_b6))
  have ne_b6_b36 : b6 ≠ b36 := Nat.ne_of_lt (Nat.lt_of_lt_of_le f42.lt (Nat.le_of_eq g36.symm))
  have ge_b36 : n0 ≤ b36 := Nat.le_trans Z35 (Nat.le_of_eq g36.symm)
  have sz_b36 : h0.size ≤ b36 := Nat.le_trans K35.1 (Nat.le_of_eq g36.symm)
  have Z36 : n0 ≤ h36.size := Nat.le_trans Z35 E36.1
  have K36 : Keep h0 h36 [b0] := K35.ext E36
  have V36 : own_Ar Z h36 b36 16 (fun _ => 0) := own_new0 16 (by decide) A36
  have f43 := (((((((((((hF_low.ext E2).other W5 (Or.inr (slot_ne (Or.inl (hw _ (own_w 88 rfl))) (Or.inl (hw _ (own_w 78 rfl))) (by decide) (t := (.array .int)) (t' := (.array .int)) (by decide) (by decide)))).ext E6).other W11 (Or.inr (slot_ne (Or.inl (hw _ (own_w 88 rfl))) (Or.inl (hw _ (own_w 80 rfl))) (by decide) (t := (.array .int)) (t' := (.array .int)) (by decide) (by decide)))).ext E12).other W18 (Or.inr (slot_ne (Or.inl (hw _ (own_w 88 rfl))) (Or.inl (hw _ (own_w 82 rfl))) (by decide) (t := (.array .int)) (t' := (.array .int)) (by decide) (by decide)))).ext E19).other W26 (Or.inr (slot_ne (Or.inl (hw _ (own_w 88 rfl))) (Or.inl (hw _ (own_w 84 rfl))) (by decide) (t := (.array .int)) (t' := (.array .int)) (by decide) (by decide)))).ext E27).other W35 (Or.inr (slot_ne (Or.inl (hw _ (own_w 88 rfl))) (Or.inl (hw _ (own_w 86 rfl))) (by decide) (t := (.array .int)) (t' := (.array .int)) (by decide) (by decide)))).ext E36)
  have f44 := (f37.ext E36)
  obtain ⟨T45, h45, X45, e45, W45, st45⟩ := putF X36 hx hZ hown (host := "") (Or.inl (hw _ (own_w 87 rfl))) Via.refl e36 f43 f44 (Or.inl (hw _ (own_w 88 rfl))) (hw _ (own_w 71 rfl)) (ty := (.array .int)) (by decide) rfl rfl (g := (mkF m 49 #[rv b0] [(.ref b36), (.ref b0)])) rfl rfl (hb hby d12_49)
  have N45 := Fr.snoc X45 N35 hga
  have Z45 : n0 ≤ h45.size := Nat.le_trans Z36 (Nat.le_of_eq W45.size.symm)
  have K45 : Keep h0 h45 [b0] := K36.wr W45 (Or.inl (List.mem_of_getElem? (i := 0) rfl))
  have Fw45 := f43.same W45
  have S46 : ∀ tz, oS p e below T45 (mkF m 52 #[rv b0] []) tz → oS p e below s₁ (mkF m 0 #[rv b0] []) tz := fun tz kz => id (by
    show oS p e below s₁ (mkF m 0 #[rv b0] []) _
    refine XS.aloadN X0.here hx rfl (hb hby d12_0) rfl rfl ?_
    refine st1 _ ?_
    refine XS.aloadN X1.here hx rfl (hb hby d12_4) rfl rfl ?_
    refine XT.bipushV X1.here hx rfl (16 : Int32) (hb hby d12_5) (by decide) ?_
    refine st2 _ ?_
    refine st5 _ ?_
    refine XS.aloadN X5.here hx rfl (hb hby d12_12) rfl rfl ?_
    refine XT.bipushV X5.here hx rfl (16 : Int32) (hb hby d12_13) (by decide) ?_
    refine st6 _ ?_
    refine st11 _ ?_
    show oS p e below T11 (mkF m 20 #[rv b0] []) _
    refine XS.aloadN X11.here hx rfl (hb hby d12_20) rfl rfl ?_
    refine XT.bipushV X11.here hx rfl (16 : Int32) (hb hby d12_21) (by decide) ?_
    refine st12 _ ?_
    refine st18 _ ?_
    refine XS.aloadN X18.here hx rfl (hb hby d12_28) rfl rfl ?_
    refine XT.bipushV X18.here hx rfl (16 : Int32) (hb hby d12_29) (by decide) ?_
    refine st19 _ ?_
    refine st26 _ ?_
    refine XS.aloadN X26.here hx rfl (hb hby d12_36) rfl rfl ?_
    refine XT.bipushV X26.here hx rfl (16 : Int32) (hb hby d12_37) (by decide) ?_
    show oS p e below T26 (mkF m 39 #[rv b0] [(.int 16), (.ref b0)]) _
    refine st27 _ ?_
    refine st35 _ ?_
    refine XS.aloadN X35.here hx rfl (hb hby d12_44) rfl rfl ?_
    refine XT.bipushV X35.here hx rfl (16 : Int32) (hb hby d12_45) (by decide) ?_
    refine st36 _ ?_
    refine st45 _ ?_
    exact kz)
  obtain ⟨fs, hr, hrun, hended, hW, hsame⟩ := X45.leave (v := none) (fun _ => rfl)
  refine ⟨_, _, pre0 _ (S46 _ ?_), hrun, hended, _, _, rfl, ?_, ⟨_, rfl⟩, hW, hsame.mono (by decide) (by decide)⟩
  · exact X45.returnOut hx Bd.returns (hb hby d12_52) hr
  have f47 := (f44.wr W45)
  have f48 := ((((((((((Fw5.ext E6).other W11 (Or.inr (slot_ne (Or.inl (hw _ (own_w 78 rfl))) (Or.inl (hw _ (own_w 80 rfl))) (by decide) (t := (.array .int)) (t' := (.array .int)) (by decide) (by decide)))).ext E12).other W18 (Or.inr (slot_ne (Or.inl (hw _ (own_w 78 rfl))) (Or.inl (hw _ (own_w 82 rfl))) (by decide) (t := (.array .int)) (t' := (.array .int)) (by decide) (by decide)))).ext E19).other W26 (Or.inr (slot_ne (Or.inl (hw _ (own_w 78 rfl))) (Or.inl (hw _ (own_w 84 rfl))) (by decide) (t := (.array .int)) (t' := (.array .int)) (by decide) (by decide)))).ext E27).other W35 (Or.inr (slot_ne (Or.inl (hw _ (own_w 78 rfl))) (Or.inl (hw _ (own_w 86 rfl))) (by decide) (t := (.array .int)) (t' := (.array .int)) (by decide) (by decide)))).ext E36).other W45 (Or.inr (slot_ne (Or.inl (hw _ (own_w 78 rfl))) (Or.inl (hw _ (own_w 88 rfl))) (by decide) (t := (.array .int)) (t' := (.array .int)) (by decide) (by decide))))
  have f49 := ((((((((Fw11.ext E12).other W18 (Or.inr (slot_ne (Or.inl (hw _ (own_w 80 rfl))) (Or.inl (hw _ (own_w 82 rfl))) (by decide) (t := (.array .int)) (t' := (.array .int)) (by decide) (by decide)))).ext E19).other W26 (Or.inr (slot_ne (Or.inl (hw _ (own_w 80 rfl))) (Or.inl (hw _ (own_w 84 rfl))) (by decide) (t := (.array .int)) (t' := (.array .int)) (by decide) (by decide)))).ext E27).other W35 (Or.inr (slot_ne (Or.inl (hw _ (own_w 80 rfl))) (Or.inl (hw _ (own_w 86 rfl))) (by decide) (t := (.array .int)) (t' := (.array .int)) (by decide) (by decide)))).ext E36).other W45 (Or.inr (slot_ne (Or.inl (hw _ (own_w 80 rfl))) (Or.inl (hw _ (own_w 88 rfl))) (by decide) (t := (.array .int)) (t' := (.array .int)) (by decide) (by decide))))
  have f50 := ((((((Fw18.ext E19).other W26 (Or.inr (slot_ne (Or.inl (hw _ (own_w 82 rfl))) (Or.inl (hw _ (own_w 84 rfl))) (by decide) (t := (.array .int)) (t' := (.array .int)) (by decide) (by decide)))).ext E27).other W35 (Or.inr (slot_ne (Or.inl (hw _ (own_w 82 rfl))) (Or.inl (hw _ (own_w 86 rfl))) (by decide) (t := (.array .int)) (t' := (.array .int)) (by decide) (by decide)))).ext E36).other W45 (Or.inr (slot_ne (Or.inl (hw _ (own_w 82 rfl))) (Or.inl (hw _ (own_w 88 rfl))) (by decide) (t := (.array .int)) (t' := (.array .int)) (by decide) (by decide))))
  have f51 := ((((Fw26.ext E27).other W35 (Or.inr (slot_ne (Or.inl (hw _ (own_w 84 rfl))) (Or.inl (hw _ (own_w 86 rfl))) (by decide) (t := (.array .int)) (t' := (.array .int)) (by decide) (by decide)))).ext E36).other W45 (Or.inr (slot_ne (Or.inl (hw _ (own_w 84 rfl))) (Or.inl (hw _ (own_w 88 rfl))) (by decide) (t := (.array .int)) (t' := (.array .int)) (by decide) (by decide))))
  have f52 := ((Fw35.ext E36).other W45 (Or.inr (slot_ne (Or.inl (hw _ (own_w 86 rfl))) (Or.inl (hw _ (own_w 88 rfl))) (by decide) (t := (.array .int)) (t' := (.array .int)) (by decide) (by decide))))
  have f53 := ((((((((((((hF_depth.ext E2).other W5 (Or.inr (slot_ne (Or.inl (hw _ (own_w 103 rfl))) (Or.inl (hw _ (own_w 78 rfl))) (by decide) (t := .int) (t' := (.array .int)) (by decide) (by decide)))).ext E6).other W11 (Or.inr (slot_ne (Or.inl (hw _ (own_w 103 rfl))) (Or.inl (hw _ (own_w 80 rfl))) (by decide) (t := .int) (t' := (.array .int)) (by decide) (by decide)))).ext E12).other W18 (Or.inr (slot_ne (Or.inl (hw _ (own_w 103 rfl))) (Or.inl (hw _ (own_w 82 rfl))) (by decide) (t := .int) (t' := (.array .int)) (by decide) (by decide)))).ext E19).other W26 (Or.inr (slot_ne (Or.inl (hw _ (own_w 103 rfl))) (Or.inl (hw _ (own_w 84 rfl))) (by decide) (t := .int) (t' := (.array .int)) (by decide) (by decide)))).ext E27).other W35 (Or.inr (slot_ne (Or.inl (hw _ (own_w 103 rfl))) (Or.inl (hw _ (own_w 86 rfl))) (by decide) (t := .int) (t' := (.array .int)) (by decide) (by decide)))).ext E36).other W45 (Or.inr (slot_ne (Or.inl (hw _ (own_w 103 rfl))) (Or.inl (hw _ (own_w 88 rfl))) (by decide) (t := .int) (t' := (.array .int)) (by decide) (by decide))))
  have f54 := ((f40.ext E36).other W45 (Ne.symm ne_b0_b2))
  have f55 := ((f42.ext E36).other W45 (Ne.symm ne_b0_b6))
  have f56 := ((f38.ext E36).other W45 (Ne.symm ne_b0_b12))
  have f57 := ((f39.ext E36).other W45 (Ne.symm ne_b0_b19))
  have f58 := ((f41.ext E36).other W45 (Ne.symm ne_b0_b27))
  have f59 := (V36.other W45 (Ne.symm ne_b0_b36))
  · show QrmFI Z b0 h0 n0 _ T45.heap _
    rw [e45]
    exact ⟨b2, b6, b12, b19, b27, b36, rfl, N45, K45, (allS sz_b2 (allS sz_b6 (allS sz_b12 (allS sz_b19 (allS sz_b27 (allS sz_b36 all0)))))), ((((((((own_Sep.nil n0).cons all0 ge_b36).cons (allS ne_b27_b36 all0) ge_b27).cons (allS ne_b19_b27 (allS ne_b19_b36 all0)) ge_b19).cons (allS ne_b12_b19 (allS ne_b12_b27 (allS ne_b12_b36 all0))) ge_b12).cons (allS ne_b6_b12 (allS ne_b6_b19 (allS ne_b6_b27 (allS ne_b6_b36 all0)))) ge_b6).cons (allS ne_b2_b6 (allS ne_b2_b12 (allS ne_b2_b19 (allS ne_b2_b27 (allS ne_b2_b36 all0))))) ge_b2).cons (allS ne_b0_b2 (allS ne_b0_b6 (allS ne_b0_b12 (allS ne_b0_b19 (allS ne_b0_b27 (allS ne_b0_b36 all0)))))) hga), own_Frm.mk f47 f48 f49 f50 f51 f52 Fw45 f53 f54 f55 f56 f57 f58 f59⟩
theorem d15_0 : decode prog_73_method_2_code 0 = .ok (.aload_n 0, 1) := by decide +kernel
theorem d15_1 : decode prog_73_method_2_code 1 = .ok (.getfield 30, 3) := by decide +kernel
theorem d15_4 : decode prog_73_method_2_code 4 = .ok (.aload_n 0, 1) := by decide +kernel
theorem d15_5 : decode prog_73_method_2_code 5 = .ok (.getfield 9, 3) := by decide +kernel
theorem d15_8 : decode prog_73_method_2_code 8 = .ok (.arraylength, 1) := by decide +kernel
theorem d15_9 : decode prog_73_method_2_code 9 = .ok (.if_icmp .ne 89, 3) := by decide +kernel
theorem d15_98 : decode prog_73_method_2_code 98 = .ok (.aload_n 0, 1) := by decide +kernel
theorem d15_99 : decode prog_73_method_2_code 99 = .ok (.getfield 9, 3) := by decide +kernel
theorem d15_102 : decode prog_73_method_2_code 102 = .ok (.aload_n 0, 1) := by decide +kernel
theorem d15_103 : decode prog_73_method_2_code 103 = .ok (.getfield 30, 3) := by decide +kernel
theorem d15_106 : decode prog_73_method_2_code 106 = .ok (.iload_n 1, 1) := by decide +kernel
theorem d15_107 : decode prog_73_method_2_code 107 = .ok (.iastore, 1) := by decide +kernel
theorem d15_108 : decode prog_73_method_2_code 108 = .ok (.aload_n 0, 1) := by decide +kernel
theorem d15_109 : decode prog_73_method_2_code 109 = .ok (.getfield 15, 3) := by decide +kernel
theorem d15_112 : decode prog_73_method_2_code 112 = .ok (.aload_n 0, 1) := by decide +kernel
theorem d15_113 : decode prog_73_method_2_code 113 = .ok (.getfield 30, 3) := by decide +kernel
theorem d15_116 : decode prog_73_method_2_code 116 = .ok (.iload_n 2, 1) := by decide +kernel
theorem d15_117 : decode prog_73_method_2_code 117 = .ok (.iastore, 1) := by decide +kernel
theorem d15_118 : decode prog_73_method_2_code 118 = .ok (.aload_n 0, 1) := by decide +kernel
theorem d15_119 : decode prog_73_method_2_code 119 = .ok (.getfield 18, 3) := by decide +kernel
theorem d15_122 : decode prog_73_method_2_code 122 = .ok (.aload_n 0, 1) := by decide +kernel
theorem d15_123 : decode prog_73_method_2_code 123 = .ok (.getfield 30, 3) := by decide +kernel
theorem d15_126 : decode prog_73_method_2_code 126 = .ok (.iload_n 3, 1) := by decide +kernel
theorem d15_127 : decode prog_73_method_2_code 127 = .ok (.iastore, 1) := by decide +kernel
theorem d15_128 : decode prog_73_method_2_code 128 = .ok (.aload_n 0, 1) := by decide +kernel
theorem d15_129 : decode prog_73_method_2_code 129 = .ok (.getfield 21, 3) := by decide +kernel
theorem d15_132 : decode prog_73_method_2_code 132 = .ok (.aload_n 0, 1) := by decide +kernel
theorem d15_133 : decode prog_73_method_2_code 133 = .ok (.getfield 30, 3) := by decide +kernel
theorem d15_136 : decode prog_73_method_2_code 136 = .ok (.iload 4, 2) := by decide +kernel
theorem d15_138 : decode prog_73_method_2_code 138 = .ok (.iastore, 1) := by decide +kernel
theorem d15_139 : decode prog_73_method_2_code 139 = .ok (.aload_n 0, 1) := by decide +kernel
theorem d15_140 : decode prog_73_method_2_code 140 = .ok (.getfield 24, 3) := by decide +kernel
theorem d15_143 : decode prog_73_method_2_code 143 = .ok (.aload_n 0, 1) := by decide +kernel
theorem d15_144 : decode prog_73_method_2_code 144 = .ok (.getfield 30, 3) := by decide +kernel
theorem d15_147 : decode prog_73_method_2_code 147 = .ok (.iconst (-1), 1) := by decide +kernel
theorem d15_148 : decode prog_73_method_2_code 148 = .ok (.iastore, 1) := by decide +kernel
theorem d15_149 : decode prog_73_method_2_code 149 = .ok (.aload_n 0, 1) := by decide +kernel
theorem d15_150 : decode prog_73_method_2_code 150 = .ok (.getfield 27, 3) := by decide +kernel
theorem d15_153 : decode prog_73_method_2_code 153 = .ok (.aload_n 0, 1) := by decide +kernel
theorem d15_154 : decode prog_73_method_2_code 154 = .ok (.getfield 30, 3) := by decide +kernel
theorem d15_157 : decode prog_73_method_2_code 157 = .ok (.iconst (-1), 1) := by decide +kernel
theorem d15_158 : decode prog_73_method_2_code 158 = .ok (.iastore, 1) := by decide +kernel
theorem d15_159 : decode prog_73_method_2_code 159 = .ok (.aload_n 0, 1) := by decide +kernel
theorem d15_160 : decode prog_73_method_2_code 160 = .ok (.dup, 1) := by decide +kernel
theorem d15_161 : decode prog_73_method_2_code 161 = .ok (.getfield 30, 3) := by decide +kernel
theorem d15_164 : decode prog_73_method_2_code 164 = .ok (.iconst 1, 1) := by decide +kernel
theorem d15_165 : decode prog_73_method_2_code 165 = .ok (.iadd, 1) := by decide +kernel
theorem d15_166 : decode prog_73_method_2_code 166 = .ok (.putfield 30, 3) := by decide +kernel
theorem d15_169 : decode prog_73_method_2_code 169 = .ok (.return_, 1) := by decide +kernel
def QrmPush (Z : State) (b0 : Addr) (bf : Addr) (bg : Addr) (bh : Addr) (bv : Addr) (bi : Addr) (bl : Addr) (Ff : Nat → Int32) (Fg : Nat → Int32) (Fh : Nat → Int32) (Fv : Nat → Int32) (Fi : Nat → Int32) (Fl : Nat → Int32) (dp : Nat) (y1 : Int32) (y2 : Int32) (y3 : Int32) (y4 : Int32) (h0 : Heap) (n0 : Nat) (v : Option Value) (h : Heap) (L : List Loc) : Prop := v = none ∧ Fr n0 L ∧ Keep h0 h [b0, bf, bg, bh, bv, bi, bl] ∧ own_Frm Z h b0 bf bg bh bv bi bl (own_up Ff dp y1) (own_up Fg dp y2) (own_up Fh dp y3) (own_up Fv dp y4) (own_up Fi dp (-1 : Int32)) (own_up Fl dp (-1 : Int32)) (dp + 1)
set_option maxRecDepth 65536 in
set_option maxHeartbeats 40000000 in
theorem rmPush (l : Launch) (Z : State) (av0 : Array Value) (hw : ∀ d ∈ tables_1, d.before av0 Z = true) (ws : List Jvm.Cond) (b0 : Addr) (bf : Addr) (bg : Addr) (bh : Addr) (bv : Addr) (bi : Addr) (bl : Addr) (Ff : Nat → Int32) (Fg : Nat → Int32) (Fh : Nat → Int32) (Fv : Nat → Int32) (Fi : Nat → Int32) (Fl : Nat → Int32) (dp : Nat) (y1 : Int32) (y2 : Int32) (y3 : Int32) (y4 : Int32) (h0 : Heap) (n0 : Nat) (Z0 : n0 ≤ h0.size) (hG : own_Frm Z h0 b0 bf bg bh bv bi bl Ff Fg Fh Fv Fi Fl dp) (hS : own_Sep n0 [b0, bf, bg, bh, bv, bi, bl]) (hdp : dp < 16) :
    own_Met l mN13 prog_73_method_2_code 6 none ws ({ frames := 0, cells := 0, slots := 0, locals := 0 } : Room) #[(.ref b0), (.int y1), (.int y2), (.int y3), (.int y4)] Z h0 (QrmPush Z b0 bf bg bh bv bi bl Ff Fg Fh Fv Fi Fl dp y1 y2 y3 y4 h0 n0) := by
  refine MetFree.of_bodySF (plainFor_of_name pn_DecisionDiagram_Frames) hisR ?_
  intro p e s m args below meth c s₁ Bd hml0 hP hK
  obtain ⟨rfl, hZ, hh⟩ := hP
  have hml : c.maxLocals = 6 := hml0
  obtain ⟨hx, hby, hown, hnm, X0, e0⟩ := own_start Bd hml0 hh
  have N0 := Fr.nil n0
  have pre0 : ∀ tz, oS p e below s₁ (mkF m 0 #[rv b0, iv y1, iv y2, iv y3, iv y4, .unset] []) tz → Steps p.tables e below (s₁.setTop (entryFrame m #[(.ref b0), (.int y1), (.int y2), (.int y3), (.int y4)] 6)) tz := fun tz kz => castTop (by first | (simp [entryFrame, mkF, argsToLocals, Value.category]; done) | rfl) kz
  obtain ⟨T1, X1, e1, st1⟩ := getF X0 hx hZ hown (host := "") (Or.inl (hw _ (own_w 102 rfl))) Via.refl e0 hG.Fs (g := (mkF m 1 #[rv b0, iv y1, iv y2, iv y3, iv y4, .unset] [(.ref b0)])) rfl rfl (hb hby d15_1)
  obtain ⟨T2, X2, e2, st2⟩ := getF X1 hx hZ hown (host := "") (Or.inl (hw _ (own_w 77 rfl))) Via.refl e1 hG.Fbf (g := (mkF m 5 #[rv b0, iv y1, iv y2, iv y3, iv y4, .unset] [(.ref b0), (.int (own_n dp))])) rfl rfl (hb hby d15_5)
  obtain ⟨kc3, cl3, Ar3, qk3, Sz3, Ng3, Hs3, Gs3⟩ := id hG.Abf
  obtain ⟨T4, X4, e4, st4⟩ := getF X2 hx hZ hown (host := "") (Or.inl (hw _ (own_w 77 rfl))) Via.refl e2 hG.Fbf (g := (mkF m 99 #[rv b0, iv y1, iv y2, iv y3, iv y4, .unset] [(.ref b0)])) rfl rfl (hb hby d15_99)
  obtain ⟨T5, X5, e5, st5⟩ := getF X4 hx hZ hown (host := "") (Or.inl (hw _ (own_w 102 rfl))) Via.refl e4 hG.Fs (g := (mkF m 103 #[rv b0, iv y1, iv y2, iv y3, iv y4, .unset] [(.ref b0), (.ref bf)])) rfl rfl (hb hby d15_103)
  obtain ⟨kc6, cl6, Ar6, qk6, Sz6, Ng6, Hs6, Gs6⟩ := id hG.Abf
  have hin6 : ¬ ((own_n dp) < 0 ∨ cl6.slots.size ≤ ((own_n dp)).toNatClampNeg) := own_inb (n := 16) (k := dp) Sz6 (by decide) hdp
  obtain ⟨T7, h7, X7, e7, W7, st7⟩ := stI X5 hx hZ e5 Ar6 (j := (own_n dp)) hin6 (g := (mkF m 107 #[rv b0, iv y1, iv y2, iv y3, iv y4, .unset] [(.int y1), (.int (own_n dp)), (.ref bf)])) rfl rfl (hb hby d15_107)
  have N7 := Fr.snoc X7 N0 (hS.ge _ (List.mem_of_getElem? (i := 1) rfl))
  have Z7 : n0 ≤ h7.size := Nat.le_trans Z0 (Nat.le_of_eq W7.size.symm)
  have K7 : Keep h0 h7 [b0, bf, bg, bh, bv, bi, bl] := (Keep.refl h0 [b0, bf, bg, bh, bv, bi, bl]).wr W7 (Or.inl (List.mem_of_getElem? (i := 1) rfl))
  have V7 : own_Ar Z h7 bf 16 (own_up Ff dp y1) := own_arset (g := Ff) (k := dp) Ar6 qk6 Sz6 Ng6 Hs6 Gs6 W7 (by decide) hdp
  have f8 := (hG.Fbg.other W7 (Or.inl (own_nd hS.nd 0 1 (by decide) rfl rfl)))
  obtain ⟨T9, X9, e9, st9⟩ := getF X7 hx hZ hown (host := "") (Or.inl (hw _ (own_w 79 rfl))) Via.refl e7 f8 (g := (mkF m 109 #[rv b0, iv y1, iv y2, iv y3, iv y4, .unset] [(.ref b0)])) rfl rfl (hb hby d15_109)
  have f10 := (hG.Fs.other W7 (Or.inl (own_nd hS.nd 0 1 (by decide) rfl rfl)))
  obtain ⟨T11, X11, e11, st11⟩ := getF X9 hx hZ hown (host := "") (Or.inl (hw _ (own_w 102 rfl))) Via.refl e9 f10 (g := (mkF m 113 #[rv b0, iv y1, iv y2, iv y3, iv y4, .unset] [(.ref b0), (.ref bg)])) rfl rfl (hb hby d15_113)
  have f12 := (hG.Abg.other W7 (Ne.symm (own_nd hS.nd 1 2 (by decide) rfl rfl)))
  obtain ⟨kc13, cl13, Ar13, qk13, Sz13, Ng13, Hs13, Gs13⟩ := id f12
  have hin13 : ¬ ((own_n dp) < 0 ∨ cl13.slots.size ≤ ((own_n dp)).toNatClampNeg) := own_inb (n := 16) (k := dp) Sz13 (by decide) hdp
  obtain ⟨T14, h14, X14, e14, W14, st14⟩ := stI X11 hx hZ e11 Ar13 (j := (own_n dp)) hin13 (g := (mkF m 117 #[rv b0, iv y1, iv y2, iv y3, iv y4, .unset] [(.int y2), (.int (own_n dp)), (.ref bg)])) rfl rfl (hb hby d15_117)
  have N14 := Fr.snoc X14 N7 (hS.ge _ (List.mem_of_getElem? (i := 2) rfl))
  have Z14 : n0 ≤ h14.size := Nat.le_trans Z7 (Nat.le_of_eq W14.size.symm)
  have K14 : Keep h0 h14 [b0, bf, bg, bh, bv, bi, bl] := K7.wr W14 (Or.inl (List.mem_of_getElem? (i := 2) rfl))
  have V14 : own_Ar Z h14 bg 16 (own_up Fg dp y2) := own_arset (g := Fg) (k := dp) Ar13 qk13 Sz13 Ng13 Hs13 Gs13 W14 (by decide) hdp
  have f15 := ((hG.Fbh.other W7 (Or.inl (own_nd hS.nd 0 1 (by decide) rfl rfl))).other W14 (Or.inl (own_nd hS.nd 0 2 (by decide) rfl rfl)))
  obtain ⟨T16, X16, e16, st16⟩ := getF X14 hx hZ hown (host := "") (Or.inl (hw _ (own_w 81 rfl))) Via.refl e14 f15 (g := (mkF m 119 #[rv b0, iv y1, iv y2, iv y3, iv y4, .unset] [(.ref b0)])) rfl rfl (hb hby d15_119)
  have f17 := (f10.other W14 (Or.inl (own_nd hS.nd 0 2 (by decide) rfl rfl)))
  obtain ⟨T18, X18, e18, st18⟩ := getF X16 hx hZ hown (host := "") (Or.inl (hw _ (own_w 102 rfl))) Via.refl e16 f17 (g := (mkF m 123 #[rv b0, iv y1, iv y2, iv y3, iv y4, .unset] [(.ref b0), (.ref bh)])) rfl rfl (hb hby d15_123)
  have f19 := ((hG.Abh.other W7 (Ne.symm (own_nd hS.nd 1 3 (by decide) rfl rfl))).other W14 (Ne.symm (own_nd hS.nd 2 3 (by decide) rfl rfl)))
  obtain ⟨kc20, cl20, Ar20, qk20, Sz20, Ng20, Hs20, Gs20⟩ := id f19
  have hin20 : ¬ ((own_n dp) < 0 ∨ cl20.slots.size ≤ ((own_n dp)).toNatClampNeg) := own_inb (n := 16) (k := dp) Sz20 (by decide) hdp
  obtain ⟨T21, h21, X21, e21, W21, st21⟩ := stI X18 hx hZ e18 Ar20 (j := (own_n dp)) hin20 (g := (mkF m 127 #[rv b0, iv y1, iv y2, iv y3, iv y4, .unset] [(.int y3), (.int (own_n dp)), (.ref bh)])) rfl rfl (hb hby d15_127)
  have N21 := Fr.snoc X21 N14 (hS.ge _ (List.mem_of_getElem? (i := 3) rfl))
  have Z21 : n0 ≤ h21.size := Nat.le_trans Z14 (Nat.le_of_eq W21.size.symm)
  have K21 : Keep h0 h21 [b0, bf, bg, bh, bv, bi, bl] := K14.wr W21 (Or.inl (List.mem_of_getElem? (i := 3) rfl))
  have V21 : own_Ar Z h21 bh 16 (own_up Fh dp y3) := own_arset (g := Fh) (k := dp) Ar20 qk20 Sz20 Ng20 Hs20 Gs20 W21 (by decide) hdp
  have f22 := (((hG.Fbv.other W7 (Or.inl (own_nd hS.nd 0 1 (by decide) rfl rfl))).other W14 (Or.inl (own_nd hS.nd 0 2 (by decide) rfl rfl))).other W21 (Or.inl (own_nd hS.nd 0 3 (by decide) rfl rfl)))
  obtain ⟨T23, X23, e23, st23⟩ := getF X21 hx hZ hown (host := "") (Or.inl (hw _ (own_w 83 rfl))) Via.refl e21 f22 (g := (mkF m 129 #[rv b0, iv y1, iv y2, iv y3, iv y4, .unset] [(.ref b0)])) rfl rfl (hb hby d15_129)
  have f24 := (f17.other W21 (Or.inl (own_nd hS.nd 0 3 (by decide) rfl rfl)))
  obtain ⟨T25, X25, e25, st25⟩ := getF X23 hx hZ hown (host := "") (Or.inl (hw _ (own_w 102 rfl))) Via.refl e23 f24 (g := (mkF m 133 #[rv b0, iv y1, iv y2, iv y3, iv y4, .unset] [(.ref b0), (.ref bv)])) rfl rfl (hb hby d15_133)
  have f26 := (((hG.Abv.other W7 (Ne.symm (own_nd hS.nd 1 4 (by decide) rfl rfl))).other W14 (Ne.symm (own_nd hS.nd 2 4 (by decide) rfl rfl))).other W21 (Ne.symm (own_nd hS.nd 3 4 (by decide) rfl rfl)))
  obtain ⟨kc27, cl27, Ar27, qk27, Sz27, Ng27, Hs27, Gs27⟩ := id f26
  have hin27 : ¬ ((own_n dp) < 0 ∨ cl27.slots.size ≤ ((own_n dp)).toNatClampNeg) := own_inb (n := 16) (k := dp) Sz27 (by decide) hdp
  obtain ⟨T28, h28, X28, e28, W28, st28⟩ := stI X25 hx hZ e25 Ar27 (j := (own_n dp)) hin27 (g := (mkF m 138 #[rv b0, iv y1, iv y2, iv y3, iv y4, .unset] [(.int y4), (.int (own_n dp)), (.ref bv)])) rfl rfl (hb hby d15_138)
  have N28 := Fr.snoc X28 N21 (hS.ge _ (List.mem_of_getElem? (i := 4) rfl))
  have Z28 : n0 ≤ h28.size := Nat.le_trans Z21 (Nat.le_of_eq W28.size.symm)
  have K28 : Keep h0 h28 [b0, bf, bg, bh, bv, bi, bl] := K21.wr W28 (Or.inl (List.mem_of_getElem? (i := 4) rfl))
  have V28 : own_Ar Z h28 bv 16 (own_up Fv dp y4) := own_arset (g := Fv) (k := dp) Ar27 qk27 Sz27 Ng27 Hs27 Gs27 W28 (by decide) hdp
  have f29 := ((((hG.Fbi.other W7 (Or.inl (own_nd hS.nd 0 1 (by decide) rfl rfl))).other W14 (Or.inl (own_nd hS.nd 0 2 (by decide) rfl rfl))).other W21 (Or.inl (own_nd hS.nd 0 3 (by decide) rfl rfl))).other W28 (Or.inl (own_nd hS.nd 0 4 (by decide) rfl rfl)))
  obtain ⟨T30, X30, e30, st30⟩ := getF X28 hx hZ hown (host := "") (Or.inl (hw _ (own_w 85 rfl))) Via.refl e28 f29 (g := (mkF m 140 #[rv b0, iv y1, iv y2, iv y3, iv y4, .unset] [(.ref b0)])) rfl rfl (hb hby d15_140)
  have f31 := (f24.other W28 (Or.inl (own_nd hS.nd 0 4 (by decide) rfl rfl)))
  obtain ⟨T32, X32, e32, st32⟩ := getF X30 hx hZ hown (host := "") (Or.inl (hw _ (own_w 102 rfl))) Via.refl e30 f31 (g := (mkF m 144 #[rv b0, iv y1, iv y2, iv y3, iv y4, .unset] [(.ref b0), (.ref bi)])) rfl rfl (hb hby d15_144)
  have f33 := ((((hG.Abi.other W7 (Ne.symm (own_nd hS.nd 1 5 (by decide) rfl rfl))).other W14 (Ne.symm (own_nd hS.nd 2 5 (by decide) rfl rfl))).other W21 (Ne.symm (own_nd hS.nd 3 5 (by decide) rfl rfl))).other W28 (Ne.symm (own_nd hS.nd 4 5 (by decide) rfl rfl)))
  obtain ⟨kc34, cl34, Ar34, qk34, Sz34, Ng34, Hs34, Gs34⟩ := id f33
  have hin34 : ¬ ((own_n dp) < 0 ∨ cl34.slots.size ≤ ((own_n dp)).toNatClampNeg) := own_inb (n := 16) (k := dp) Sz34 (by decide) hdp
  obtain ⟨T35, h35, X35, e35, W35, st35⟩ := stI X32 hx hZ e32 Ar34 (j := (own_n dp)) hin34 (g := (mkF m 148 #[rv b0, iv y1, iv y2, iv y3, iv y4, .unset] [(.int (-1)), (.int (own_n dp)), (.ref bi)])) rfl rfl (hb hby d15_148)
  have N35 := Fr.snoc X35 N28 (hS.ge _ (List.mem_of_getElem? (i := 5) rfl))
  have Z35 : n0 ≤ h35.size := Nat.le_trans Z28 (Nat.le_of_eq W35.size.symm)
  have K35 : Keep h0 h35 [b0, bf, bg, bh, bv, bi, bl] := K28.wr W35 (Or.inl (List.mem_of_getElem? (i := 5) rfl))
  have V35 : own_Ar Z h35 bi 16 (own_up Fi dp (-1 : Int32)) := own_arset (g := Fi) (k := dp) Ar34 qk34 Sz34 Ng34 Hs34 Gs34 W35 (by decide) hdp
  have f36 := (((((hG.Fbl.other W7 (Or.inl (own_nd hS.nd 0 1 (by decide) rfl rfl))).other W14 (Or.inl (own_nd hS.nd 0 2 (by decide) rfl rfl))).other W21 (Or.inl (own_nd hS.nd 0 3 (by decide) rfl rfl))).other W28 (Or.inl (own_nd hS.nd 0 4 (by decide) rfl rfl))).other W35 (Or.inl (own_nd hS.nd 0 5 (by decide) rfl rfl)))
  obtain ⟨T37, X37, e37, st37⟩ := getF X35 hx hZ hown (host := "") (Or.inl (hw _ (own_w 87 rfl))) Via.refl e35 f36 (g := (mkF m 150 #[rv b0, iv y1, iv y2, iv y3, iv y4, .unset] [(.ref b0)])) rfl rfl (hb hby d15_150)
  have f38 := (f31.other W35 (Or.inl (own_nd hS.nd 0 5 (by decide) rfl rfl)))
  obtain ⟨T39, X39, e39, st39⟩ := getF X37 hx hZ hown (host := "") (Or.inl (hw _ (own_w 102 rfl))) Via.refl e37 f38 (g := (mkF m 154 #[rv b0, iv y1, iv y2, iv y3, iv y4, .unset] [(.ref b0), (.ref bl)])) rfl rfl (hb hby d15_154)
  have f40 := (((((hG.Abl.other W7 (Ne.symm (own_nd hS.nd 1 6 (by decide) rfl rfl))).other W14 (Ne.symm (own_nd hS.nd 2 6 (by decide) rfl rfl))).other W21 (Ne.symm (own_nd hS.nd 3 6 (by decide) rfl rfl))).other W28 (Ne.symm (own_nd hS.nd 4 6 (by decide) rfl rfl))).other W35 (Ne.symm (own_nd hS.nd 5 6 (by decide) rfl rfl)))
  obtain ⟨kc41, cl41, Ar41, qk41, Sz41, Ng41, Hs41, Gs41⟩ := id f40
  have hin41 : ¬ ((own_n dp) < 0 ∨ cl41.slots.size ≤ ((own_n dp)).toNatClampNeg) := own_inb (n := 16) (k := dp) Sz41 (by decide) hdp
  obtain ⟨T42, h42, X42, e42, W42, st42⟩ := stI X39 hx hZ e39 Ar41 (j := (own_n dp)) hin41 (g := (mkF m 158 #[rv b0, iv y1, iv y2, iv y3, iv y4, .unset] [(.int (-1)), (.int (own_n dp)), (.ref bl)])) rfl rfl (hb hby d15_158)
  have N42 := Fr.snoc X42 N35 (hS.ge _ (List.mem_of_getElem? (i := 6) rfl))
  have Z42 : n0 ≤ h42.size := Nat.le_trans Z35 (Nat.le_of_eq W42.size.symm)
  have K42 : Keep h0 h42 [b0, bf, bg, bh, bv, bi, bl] := K35.wr W42 (Or.inl (List.mem_of_getElem? (i := 6) rfl))
  have V42 : own_Ar Z h42 bl 16 (own_up Fl dp (-1 : Int32)) := own_arset (g := Fl) (k := dp) Ar41 qk41 Sz41 Ng41 Hs41 Gs41 W42 (by decide) hdp
  have f43 := (f38.other W42 (Or.inl (own_nd hS.nd 0 6 (by decide) rfl rfl)))
  obtain ⟨T44, X44, e44, st44⟩ := getF X42 hx hZ hown (host := "") (Or.inl (hw _ (own_w 102 rfl))) Via.refl e42 f43 (g := (mkF m 161 #[rv b0, iv y1, iv y2, iv y3, iv y4, .unset] [(.ref b0), (.ref b0)])) rfl rfl (hb hby d15_161)
  have f45 := ((((((hG.E.wr W7).wr W14).wr W21).wr W28).wr W35).wr W42)
  obtain ⟨T46, h46, X46, e46, W46, st46⟩ := putF X44 hx hZ hown (host := "") (Or.inl (hw _ (own_w 102 rfl))) Via.refl e44 f43 f45 (Or.inl (hw _ (own_w 103 rfl))) (hw _ (own_w 71 rfl)) (ty := .int) (by decide) rfl rfl (g := (mkF m 166 #[rv b0, iv y1, iv y2, iv y3, iv y4, .unset] [(.int (own_n (dp + 1))), (.ref b0)])) rfl rfl (hb hby d15_166)
  have N46 := Fr.snoc X46 N42 (hS.ge _ (List.mem_of_getElem? (i := 0) rfl))
  have Z46 : n0 ≤ h46.size := Nat.le_trans Z42 (Nat.le_of_eq W46.size.symm)
  have K46 : Keep h0 h46 [b0, bf, bg, bh, bv, bi, bl] := K42.wr W46 (Or.inl (List.mem_of_getElem? (i := 0) rfl))
  have Fw46 := f43.same W46
  have S47 : ∀ tz, oS p e below T46 (mkF m 169 #[rv b0, iv y1, iv y2, iv y3, iv y4, .unset] []) tz → oS p e below s₁ (mkF m 0 #[rv b0, iv y1, iv y2, iv y3, iv y4, .unset] []) tz := fun tz kz => id (by
    show oS p e below s₁ (mkF m 0 #[rv b0, iv y1, iv y2, iv y3, iv y4, .unset] []) _
    refine XS.aloadN X0.here hx rfl (hb hby d15_0) rfl rfl ?_
    refine st1 _ ?_
    refine XS.aloadN X1.here hx rfl (hb hby d15_4) rfl rfl ?_
    refine st2 _ ?_
    refine X2.arraylength hx (by rw [e2]; exact Ar3.1) (State.isArrayOf_alike hZ.alike Ar3.2.1) (g := (mkF m 8 #[rv b0, iv y1, iv y2, iv y3, iv y4, .unset] [(.ref bf), (.int (own_n dp))])) rfl rfl (hb hby d15_8) _ ?_
    rw [len_of Sz3 Ng3]
    refine XS.icmpYes X2.here hx rfl (pc0 := 9) (pc' := 98) rfl (hb hby d15_9) rfl (XT.ii_ne_t (own_nne (j := 16) (by omega) (by decide) (by omega))) (by decide) (by decide) ?_
    refine XS.aloadN X2.here hx rfl (hb hby d15_98) rfl rfl ?_
    refine st4 _ ?_
    refine XS.aloadN X4.here hx rfl (hb hby d15_102) rfl rfl ?_
    refine st5 _ ?_
    show oS p e below T5 (mkF m 106 #[rv b0, iv y1, iv y2, iv y3, iv y4, .unset] [(.int (own_n dp)), (.ref bf)]) _
    refine XS.iloadN X5.here hx rfl (hb hby d15_106) rfl ?_
    refine st7 _ ?_
    refine XS.aloadN X7.here hx rfl (hb hby d15_108) rfl rfl ?_
    refine st9 _ ?_
    refine XS.aloadN X9.here hx rfl (hb hby d15_112) rfl rfl ?_
    refine st11 _ ?_
    refine XS.iloadN X11.here hx rfl (hb hby d15_116) rfl ?_
    refine st14 _ ?_
    refine XS.aloadN X14.here hx rfl (hb hby d15_118) rfl rfl ?_
    refine st16 _ ?_
    show oS p e below T16 (mkF m 122 #[rv b0, iv y1, iv y2, iv y3, iv y4, .unset] [(.ref bh)]) _
    refine XS.aloadN X16.here hx rfl (hb hby d15_122) rfl rfl ?_
    refine st18 _ ?_
    refine XS.iloadN X18.here hx rfl (hb hby d15_126) rfl ?_
    refine st21 _ ?_
    refine XS.aloadN X21.here hx rfl (hb hby d15_128) rfl rfl ?_
    refine st23 _ ?_
    refine XS.aloadN X23.here hx rfl (hb hby d15_132) rfl rfl ?_
    refine st25 _ ?_
    refine XS.iload X25.here hx rfl (hb hby d15_136) rfl ?_
    refine st28 _ ?_
    show oS p e below T28 (mkF m 139 #[rv b0, iv y1, iv y2, iv y3, iv y4, .unset] []) _
    refine XS.aloadN X28.here hx rfl (hb hby d15_139) rfl rfl ?_
    refine st30 _ ?_
    refine XS.aloadN X30.here hx rfl (hb hby d15_143) rfl rfl ?_
    refine st32 _ ?_
    refine XT.iconstV X32.here hx rfl (-1 : Int32) (hb hby d15_147) (by decide) ?_
    refine st35 _ ?_
    refine XS.aloadN X35.here hx rfl (hb hby d15_149) rfl rfl ?_
    refine st37 _ ?_
    refine XS.aloadN X37.here hx rfl (hb hby d15_153) rfl rfl ?_
    refine st39 _ ?_
    show oS p e below T39 (mkF m 157 #[rv b0, iv y1, iv y2, iv y3, iv y4, .unset] [(.int (own_n dp)), (.ref bl)]) _
    refine XT.iconstV X39.here hx rfl (-1 : Int32) (hb hby d15_157) (by decide) ?_
    refine st42 _ ?_
    refine XS.aloadN X42.here hx rfl (hb hby d15_159) rfl rfl ?_
    refine XS.dup X42.here hx rfl (hb hby d15_160) rfl rfl ?_
    refine st44 _ ?_
    refine XT.iconstV X44.here hx rfl (1 : Int32) (hb hby d15_164) (by decide) ?_
    refine XS.iadd X44.here hx rfl (hb hby d15_165) rfl ?_
    show oS p e below T44 (mkF m 166 #[rv b0, iv y1, iv y2, iv y3, iv y4, .unset] [(.int ((own_n dp) + (1 : Int32))), (.ref b0)]) _
    rw [own_nadd (by omega)]
    show oS p e below T44 (mkF m 166 #[rv b0, iv y1, iv y2, iv y3, iv y4, .unset] [(.int (own_n (dp + 1))), (.ref b0)]) _
    refine st46 _ ?_
    exact kz)
  obtain ⟨fs, hr, hrun, hended, hW, hsame⟩ := X46.leave (v := none) (fun _ => rfl)
  refine ⟨_, _, pre0 _ (S47 _ ?_), hrun, hended, _, _, rfl, ?_, ⟨_, rfl⟩, hW, hsame.mono (by decide) (by decide)⟩
  · exact X46.returnOut hx Bd.returns (hb hby d15_169) hr
  have f48 := (f45.wr W46)
  have f49 := (((((((hG.Fbf.other W7 (Or.inl (own_nd hS.nd 0 1 (by decide) rfl rfl))).other W14 (Or.inl (own_nd hS.nd 0 2 (by decide) rfl rfl))).other W21 (Or.inl (own_nd hS.nd 0 3 (by decide) rfl rfl))).other W28 (Or.inl (own_nd hS.nd 0 4 (by decide) rfl rfl))).other W35 (Or.inl (own_nd hS.nd 0 5 (by decide) rfl rfl))).other W42 (Or.inl (own_nd hS.nd 0 6 (by decide) rfl rfl))).other W46 (Or.inr (slot_ne (Or.inl (hw _ (own_w 78 rfl))) (Or.inl (hw _ (own_w 103 rfl))) (by decide) (t := (.array .int)) (t' := .int) (by decide) (by decide))))
  have f50 := ((((((f8.other W14 (Or.inl (own_nd hS.nd 0 2 (by decide) rfl rfl))).other W21 (Or.inl (own_nd hS.nd 0 3 (by decide) rfl rfl))).other W28 (Or.inl (own_nd hS.nd 0 4 (by decide) rfl rfl))).other W35 (Or.inl (own_nd hS.nd 0 5 (by decide) rfl rfl))).other W42 (Or.inl (own_nd hS.nd 0 6 (by decide) rfl rfl))).other W46 (Or.inr (slot_ne (Or.inl (hw _ (own_w 80 rfl))) (Or.inl (hw _ (own_w 103 rfl))) (by decide) (t := (.array .int)) (t' := .int) (by decide) (by decide))))
  have f51 := (((((f15.other W21 (Or.inl (own_nd hS.nd 0 3 (by decide) rfl rfl))).other W28 (Or.inl (own_nd hS.nd 0 4 (by decide) rfl rfl))).other W35 (Or.inl (own_nd hS.nd 0 5 (by decide) rfl rfl))).other W42 (Or.inl (own_nd hS.nd 0 6 (by decide) rfl rfl))).other W46 (Or.inr (slot_ne (Or.inl (hw _ (own_w 82 rfl))) (Or.inl (hw _ (own_w 103 rfl))) (by decide) (t := (.array .int)) (t' := .int) (by decide) (by decide))))
  have f52 := ((((f22.other W28 (Or.inl (own_nd hS.nd 0 4 (by decide) rfl rfl))).other W35 (Or.inl (own_nd hS.nd 0 5 (by decide) rfl rfl))).other W42 (Or.inl (own_nd hS.nd 0 6 (by decide) rfl rfl))).other W46 (Or.inr (slot_ne (Or.inl (hw _ (own_w 84 rfl))) (Or.inl (hw _ (own_w 103 rfl))) (by decide) (t := (.array .int)) (t' := .int) (by decide) (by decide))))
  have f53 := (((f29.other W35 (Or.inl (own_nd hS.nd 0 5 (by decide) rfl rfl))).other W42 (Or.inl (own_nd hS.nd 0 6 (by decide) rfl rfl))).other W46 (Or.inr (slot_ne (Or.inl (hw _ (own_w 86 rfl))) (Or.inl (hw _ (own_w 103 rfl))) (by decide) (t := (.array .int)) (t' := .int) (by decide) (by decide))))
  have f54 := ((f36.other W42 (Or.inl (own_nd hS.nd 0 6 (by decide) rfl rfl))).other W46 (Or.inr (slot_ne (Or.inl (hw _ (own_w 88 rfl))) (Or.inl (hw _ (own_w 103 rfl))) (by decide) (t := (.array .int)) (t' := .int) (by decide) (by decide))))
  have f55 := ((((((V7.other W14 (own_nd hS.nd 1 2 (by decide) rfl rfl)).other W21 (own_nd hS.nd 1 3 (by decide) rfl rfl)).other W28 (own_nd hS.nd 1 4 (by decide) rfl rfl)).other W35 (own_nd hS.nd 1 5 (by decide) rfl rfl)).other W42 (own_nd hS.nd 1 6 (by decide) rfl rfl)).other W46 (Ne.symm (own_nd hS.nd 0 1 (by decide) rfl rfl)))
  have f56 := (((((V14.other W21 (own_nd hS.nd 2 3 (by decide) rfl rfl)).other W28 (own_nd hS.nd 2 4 (by decide) rfl rfl)).other W35 (own_nd hS.nd 2 5 (by decide) rfl rfl)).other W42 (own_nd hS.nd 2 6 (by decide) rfl rfl)).other W46 (Ne.symm (own_nd hS.nd 0 2 (by decide) rfl rfl)))
  have f57 := ((((V21.other W28 (own_nd hS.nd 3 4 (by decide) rfl rfl)).other W35 (own_nd hS.nd 3 5 (by decide) rfl rfl)).other W42 (own_nd hS.nd 3 6 (by decide) rfl rfl)).other W46 (Ne.symm (own_nd hS.nd 0 3 (by decide) rfl rfl)))
  have f58 := (((V28.other W35 (own_nd hS.nd 4 5 (by decide) rfl rfl)).other W42 (own_nd hS.nd 4 6 (by decide) rfl rfl)).other W46 (Ne.symm (own_nd hS.nd 0 4 (by decide) rfl rfl)))
  have f59 := ((V35.other W42 (own_nd hS.nd 5 6 (by decide) rfl rfl)).other W46 (Ne.symm (own_nd hS.nd 0 5 (by decide) rfl rfl)))
  have f60 := (V42.other W46 (Ne.symm (own_nd hS.nd 0 6 (by decide) rfl rfl)))
  have G61 : own_Frm Z h46 b0 bf bg bh bv bi bl (own_up Ff dp y1) (own_up Fg dp y2) (own_up Fh dp y3) (own_up Fv dp y4) (own_up Fi dp (-1 : Int32)) (own_up Fl dp (-1 : Int32)) (dp + 1) := own_Frm.mk f48 f49 f50 f51 f52 f53 f54 Fw46 f55 f56 f57 f58 f59 f60
  · show QrmPush Z b0 bf bg bh bv bi bl Ff Fg Fh Fv Fi Fl dp y1 y2 y3 y4 h0 n0 _ T46.heap _
    rw [e46]
    exact ⟨rfl, N46, K46, G61⟩
theorem d17_0 : decode prog_73_method_3_code 0 = .ok (.aload_n 0, 1) := by decide +kernel
theorem d17_1 : decode prog_73_method_3_code 1 = .ok (.getfield 24, 3) := by decide +kernel
theorem d17_4 : decode prog_73_method_3_code 4 = .ok (.iload_n 1, 1) := by decide +kernel
theorem d17_5 : decode prog_73_method_3_code 5 = .ok (.iaload, 1) := by decide +kernel
theorem d17_6 : decode prog_73_method_3_code 6 = .ok (.iconst (-1), 1) := by decide +kernel
theorem d17_7 : decode prog_73_method_3_code 7 = .ok (.if_icmp .ne 13, 3) := by decide +kernel
theorem d17_10 : decode prog_73_method_3_code 10 = .ok (.aload_n 0, 1) := by decide +kernel
theorem d17_11 : decode prog_73_method_3_code 11 = .ok (.getfield 24, 3) := by decide +kernel
theorem d17_14 : decode prog_73_method_3_code 14 = .ok (.iload_n 1, 1) := by decide +kernel
theorem d17_15 : decode prog_73_method_3_code 15 = .ok (.iload_n 2, 1) := by decide +kernel
theorem d17_16 : decode prog_73_method_3_code 16 = .ok (.iastore, 1) := by decide +kernel
theorem d17_17 : decode prog_73_method_3_code 17 = .ok (.goto 10, 3) := by decide +kernel
theorem d17_27 : decode prog_73_method_3_code 27 = .ok (.return_, 1) := by decide +kernel
def QrmSetH (Z : State) (b0 : Addr) (bf : Addr) (bg : Addr) (bh : Addr) (bv : Addr) (bi : Addr) (bl : Addr) (Ff : Nat → Int32) (Fg : Nat → Int32) (Fh : Nat → Int32) (Fv : Nat → Int32) (Fi : Nat → Int32) (Fl : Nat → Int32) (dp : Nat) (k : Nat) (y2 : Int32) (h0 : Heap) (n0 : Nat) (v : Option Value) (h : Heap) (L : List Loc) : Prop := v = none ∧ Fr n0 L ∧ Keep h0 h [b0, bf, bg, bh, bv, bi, bl] ∧ own_Frm Z h b0 bf bg bh bv bi bl Ff Fg Fh Fv (own_up Fi k y2) Fl dp
set_option maxRecDepth 65536 in
set_option maxHeartbeats 40000000 in
theorem rmSetH (l : Launch) (Z : State) (av0 : Array Value) (hw : ∀ d ∈ tables_1, d.before av0 Z = true) (ws : List Jvm.Cond) (b0 : Addr) (bf : Addr) (bg : Addr) (bh : Addr) (bv : Addr) (bi : Addr) (bl : Addr) (Ff : Nat → Int32) (Fg : Nat → Int32) (Fh : Nat → Int32) (Fv : Nat → Int32) (Fi : Nat → Int32) (Fl : Nat → Int32) (dp : Nat) (k : Nat) (y2 : Int32) (h0 : Heap) (n0 : Nat) (Z0 : n0 ≤ h0.size) (hG : own_Frm Z h0 b0 bf bg bh bv bi bl Ff Fg Fh Fv Fi Fl dp) (hS : own_Sep n0 [b0, bf, bg, bh, bv, bi, bl]) (hk : k < 16) (hi : Fi k = -1) :
    own_Met l mN14 prog_73_method_3_code 3 none ws ({ frames := 0, cells := 0, slots := 0, locals := 0 } : Room) #[(.ref b0), (.int (own_n k)), (.int y2)] Z h0 (QrmSetH Z b0 bf bg bh bv bi bl Ff Fg Fh Fv Fi Fl dp k y2 h0 n0) := by
  refine MetFree.of_bodySF (plainFor_of_name pn_DecisionDiagram_Frames) hisR ?_
  intro p e s m args below meth c s₁ Bd hml0 hP hK
  obtain ⟨rfl, hZ, hh⟩ := hP
  have hml : c.maxLocals = 3 := hml0
  obtain ⟨hx, hby, hown, hnm, X0, e0⟩ := own_start Bd hml0 hh
  have N0 := Fr.nil n0
  have pre0 : ∀ tz, oS p e below s₁ (mkF m 0 #[rv b0, iv (own_n k), iv y2] []) tz → Steps p.tables e below (s₁.setTop (entryFrame m #[(.ref b0), (.int (own_n k)), (.int y2)] 3)) tz := fun tz kz => castTop (by first | (simp [entryFrame, mkF, argsToLocals, Value.category]; done) | rfl) kz
  obtain ⟨T1, X1, e1, st1⟩ := getF X0 hx hZ hown (host := "") (Or.inl (hw _ (own_w 85 rfl))) Via.refl e0 hG.Fbi (g := (mkF m 1 #[rv b0, iv (own_n k), iv y2] [(.ref b0)])) rfl rfl (hb hby d17_1)
  obtain ⟨kc2, cl2, Ar2, qk2, Sz2, Ng2, Hs2, Gs2⟩ := id hG.Abi
  have hin2 : ¬ ((own_n k) < 0 ∨ cl2.slots.size ≤ ((own_n k)).toNatClampNeg) := own_inb (n := 16) (k := k) Sz2 (by decide) hk
  have hat2 : cl2.slots[((own_n k)).toNatClampNeg]? = some (.int (Fi k)) := own_at (n := 16) (k := k) (g := Fi) Hs2 Sz2 (by decide) hk rfl
  obtain ⟨T3, X3, e3, st3⟩ := getF X1 hx hZ hown (host := "") (Or.inl (hw _ (own_w 85 rfl))) Via.refl e1 hG.Fbi (g := (mkF m 11 #[rv b0, iv (own_n k), iv y2] [(.ref b0)])) rfl rfl (hb hby d17_11)
  obtain ⟨kc4, cl4, Ar4, qk4, Sz4, Ng4, Hs4, Gs4⟩ := id hG.Abi
  have hin4 : ¬ ((own_n k) < 0 ∨ cl4.slots.size ≤ ((own_n k)).toNatClampNeg) := own_inb (n := 16) (k := k) Sz4 (by decide) hk
  obtain ⟨T5, h5, X5, e5, W5, st5⟩ := stI X3 hx hZ e3 Ar4 (j := (own_n k)) hin4 (g := (mkF m 16 #[rv b0, iv (own_n k), iv y2] [(.int y2), (.int (own_n k)), (.ref bi)])) rfl rfl (hb hby d17_16)
  have N5 := Fr.snoc X5 N0 (hS.ge _ (List.mem_of_getElem? (i := 5) rfl))
  have Z5 : n0 ≤ h5.size := Nat.le_trans Z0 (Nat.le_of_eq W5.size.symm)
  have K5 : Keep h0 h5 [b0, bf, bg, bh, bv, bi, bl] := (Keep.refl h0 [b0, bf, bg, bh, bv, bi, bl]).wr W5 (Or.inl (List.mem_of_getElem? (i := 5) rfl))
  have V5 : own_Ar Z h5 bi 16 (own_up Fi k y2) := own_arset (g := Fi) (k := k) Ar4 qk4 Sz4 Ng4 Hs4 Gs4 W5 (by decide) hk
  have S6 : ∀ tz, oS p e below T5 (mkF m 27 #[rv b0, iv (own_n k), iv y2] []) tz → oS p e below s₁ (mkF m 0 #[rv b0, iv (own_n k), iv y2] []) tz := fun tz kz => id (by
    show oS p e below s₁ (mkF m 0 #[rv b0, iv (own_n k), iv y2] []) _
    refine XS.aloadN X0.here hx rfl (hb hby d17_0) rfl rfl ?_
    refine st1 _ ?_
    refine XS.iloadN X1.here hx rfl (hb hby d17_4) rfl ?_
    refine X1.iaload hx (j := (own_n k)) (v := (.int (Fi k))) (by rw [e1]; exact Ar2.1) (State.isArrayOf_alike hZ.alike Ar2.2.1) Ar2.2.2 hin2 hat2 (g := (mkF m 5 #[rv b0, iv (own_n k), iv y2] [(.int (own_n k)), (.ref bi)])) rfl rfl (hb hby d17_5) _ ?_
    refine XT.iconstV X1.here hx rfl (-1 : Int32) (hb hby d17_6) (by decide) ?_
    refine XS.icmpNo X1.here hx rfl (hb hby d17_7) rfl (XT.ii_ne_f hi) ?_
    refine XS.aloadN X1.here hx rfl (hb hby d17_10) rfl rfl ?_
    refine st3 _ ?_
    refine XS.iloadN X3.here hx rfl (hb hby d17_14) rfl ?_
    refine XS.iloadN X3.here hx rfl (hb hby d17_15) rfl ?_
    show oS p e below T3 (mkF m 16 #[rv b0, iv (own_n k), iv y2] [(.int y2), (.int (own_n k)), (.ref bi)]) _
    refine st5 _ ?_
    refine XS.goto X5.here hx rfl (pc0 := 17) (pc' := 27) rfl (hb hby d17_17) (by decide) (by decide) ?_
    exact kz)
  obtain ⟨fs, hr, hrun, hended, hW, hsame⟩ := X5.leave (v := none) (fun _ => rfl)
  refine ⟨_, _, pre0 _ (S6 _ ?_), hrun, hended, _, _, rfl, ?_, ⟨_, rfl⟩, hW, hsame.mono (by decide) (by decide)⟩
  · exact X5.returnOut hx Bd.returns (hb hby d17_27) hr
  have f7 := (hG.E.wr W5)
  have f8 := (hG.Fbf.other W5 (Or.inl (own_nd hS.nd 0 5 (by decide) rfl rfl)))
  have f9 := (hG.Fbg.other W5 (Or.inl (own_nd hS.nd 0 5 (by decide) rfl rfl)))
  have f10 := (hG.Fbh.other W5 (Or.inl (own_nd hS.nd 0 5 (by decide) rfl rfl)))
  have f11 := (hG.Fbv.other W5 (Or.inl (own_nd hS.nd 0 5 (by decide) rfl rfl)))
  have f12 := (hG.Fbi.other W5 (Or.inl (own_nd hS.nd 0 5 (by decide) rfl rfl)))
  have f13 := (hG.Fbl.other W5 (Or.inl (own_nd hS.nd 0 5 (by decide) rfl rfl)))
  have f14 := (hG.Fs.other W5 (Or.inl (own_nd hS.nd 0 5 (by decide) rfl rfl)))
  have f15 := (hG.Abf.other W5 (own_nd hS.nd 1 5 (by decide) rfl rfl))
  have f16 := (hG.Abg.other W5 (own_nd hS.nd 2 5 (by decide) rfl rfl))
  have f17 := (hG.Abh.other W5 (own_nd hS.nd 3 5 (by decide) rfl rfl))
  have f18 := (hG.Abv.other W5 (own_nd hS.nd 4 5 (by decide) rfl rfl))
  have f19 := (hG.Abl.other W5 (Ne.symm (own_nd hS.nd 5 6 (by decide) rfl rfl)))
  have G20 : own_Frm Z h5 b0 bf bg bh bv bi bl Ff Fg Fh Fv (own_up Fi k y2) Fl dp := own_Frm.mk f7 f8 f9 f10 f11 f12 f13 f14 f15 f16 f17 f18 V5 f19
  · show QrmSetH Z b0 bf bg bh bv bi bl Ff Fg Fh Fv Fi Fl dp k y2 h0 n0 _ T5.heap _
    rw [e5]
    exact ⟨rfl, N5, K5, G20⟩
theorem d17_20 : decode prog_73_method_3_code 20 = .ok (.aload_n 0, 1) := by decide +kernel
theorem d17_21 : decode prog_73_method_3_code 21 = .ok (.getfield 27, 3) := by decide +kernel
theorem d17_24 : decode prog_73_method_3_code 24 = .ok (.iload_n 1, 1) := by decide +kernel
theorem d17_25 : decode prog_73_method_3_code 25 = .ok (.iload_n 2, 1) := by decide +kernel
theorem d17_26 : decode prog_73_method_3_code 26 = .ok (.iastore, 1) := by decide +kernel
def QrmSetL (Z : State) (b0 : Addr) (bf : Addr) (bg : Addr) (bh : Addr) (bv : Addr) (bi : Addr) (bl : Addr) (Ff : Nat → Int32) (Fg : Nat → Int32) (Fh : Nat → Int32) (Fv : Nat → Int32) (Fi : Nat → Int32) (Fl : Nat → Int32) (dp : Nat) (k : Nat) (y2 : Int32) (h0 : Heap) (n0 : Nat) (v : Option Value) (h : Heap) (L : List Loc) : Prop := v = none ∧ Fr n0 L ∧ Keep h0 h [b0, bf, bg, bh, bv, bi, bl] ∧ own_Frm Z h b0 bf bg bh bv bi bl Ff Fg Fh Fv Fi (own_up Fl k y2) dp
set_option maxRecDepth 65536 in
set_option maxHeartbeats 40000000 in
theorem rmSetL (l : Launch) (Z : State) (av0 : Array Value) (hw : ∀ d ∈ tables_1, d.before av0 Z = true) (ws : List Jvm.Cond) (b0 : Addr) (bf : Addr) (bg : Addr) (bh : Addr) (bv : Addr) (bi : Addr) (bl : Addr) (Ff : Nat → Int32) (Fg : Nat → Int32) (Fh : Nat → Int32) (Fv : Nat → Int32) (Fi : Nat → Int32) (Fl : Nat → Int32) (dp : Nat) (k : Nat) (y2 : Int32) (h0 : Heap) (n0 : Nat) (Z0 : n0 ≤ h0.size) (hG : own_Frm Z h0 b0 bf bg bh bv bi bl Ff Fg Fh Fv Fi Fl dp) (hS : own_Sep n0 [b0, bf, bg, bh, bv, bi, bl]) (hk : k < 16) (hi : ¬ Fi k = -1) :
    own_Met l mN14 prog_73_method_3_code 3 none ws ({ frames := 0, cells := 0, slots := 0, locals := 0 } : Room) #[(.ref b0), (.int (own_n k)), (.int y2)] Z h0 (QrmSetL Z b0 bf bg bh bv bi bl Ff Fg Fh Fv Fi Fl dp k y2 h0 n0) := by
  refine MetFree.of_bodySF (plainFor_of_name pn_DecisionDiagram_Frames) hisR ?_
  intro p e s m args below meth c s₁ Bd hml0 hP hK
  obtain ⟨rfl, hZ, hh⟩ := hP
  have hml : c.maxLocals = 3 := hml0
  obtain ⟨hx, hby, hown, hnm, X0, e0⟩ := own_start Bd hml0 hh
  have N0 := Fr.nil n0
  have pre0 : ∀ tz, oS p e below s₁ (mkF m 0 #[rv b0, iv (own_n k), iv y2] []) tz → Steps p.tables e below (s₁.setTop (entryFrame m #[(.ref b0), (.int (own_n k)), (.int y2)] 3)) tz := fun tz kz => castTop (by first | (simp [entryFrame, mkF, argsToLocals, Value.category]; done) | rfl) kz
  obtain ⟨T1, X1, e1, st1⟩ := getF X0 hx hZ hown (host := "") (Or.inl (hw _ (own_w 85 rfl))) Via.refl e0 hG.Fbi (g := (mkF m 1 #[rv b0, iv (own_n k), iv y2] [(.ref b0)])) rfl rfl (hb hby d17_1)
  obtain ⟨kc2, cl2, Ar2, qk2, Sz2, Ng2, Hs2, Gs2⟩ := id hG.Abi
  have hin2 : ¬ ((own_n k) < 0 ∨ cl2.slots.size ≤ ((own_n k)).toNatClampNeg) := own_inb (n := 16) (k := k) Sz2 (by decide) hk
  have hat2 : cl2.slots[((own_n k)).toNatClampNeg]? = some (.int (Fi k)) := own_at (n := 16) (k := k) (g := Fi) Hs2 Sz2 (by decide) hk rfl
  obtain ⟨T3, X3, e3, st3⟩ := getF X1 hx hZ hown (host := "") (Or.inl (hw _ (own_w 87 rfl))) Via.refl e1 hG.Fbl (g := (mkF m 21 #[rv b0, iv (own_n k), iv y2] [(.ref b0)])) rfl rfl (hb hby d17_21)
  obtain ⟨kc4, cl4, Ar4, qk4, Sz4, Ng4, Hs4, Gs4⟩ := id hG.Abl
  have hin4 : ¬ ((own_n k) < 0 ∨ cl4.slots.size ≤ ((own_n k)).toNatClampNeg) := own_inb (n := 16) (k := k) Sz4 (by decide) hk
  obtain ⟨T5, h5, X5, e5, W5, st5⟩ := stI X3 hx hZ e3 Ar4 (j := (own_n k)) hin4 (g := (mkF m 26 #[rv b0, iv (own_n k), iv y2] [(.int y2), (.int (own_n k)), (.ref bl)])) rfl rfl (hb hby d17_26)
  have N5 := Fr.snoc X5 N0 (hS.ge _ (List.mem_of_getElem? (i := 6) rfl))
  have Z5 : n0 ≤ h5.size := Nat.le_trans Z0 (Nat.le_of_eq W5.size.symm)
  have K5 : Keep h0 h5 [b0, bf, bg, bh, bv, bi, bl] := (Keep.refl h0 [b0, bf, bg, bh, bv, bi, bl]).wr W5 (Or.inl (List.mem_of_getElem? (i := 6) rfl))
  have V5 : own_Ar Z h5 bl 16 (own_up Fl k y2) := own_arset (g := Fl) (k := k) Ar4 qk4 Sz4 Ng4 Hs4 Gs4 W5 (by decide) hk
  have S6 : ∀ tz, oS p e below T5 (mkF m 27 #[rv b0, iv (own_n k), iv y2] []) tz → oS p e below s₁ (mkF m 0 #[rv b0, iv (own_n k), iv y2] []) tz := fun tz kz => id (by
    show oS p e below s₁ (mkF m 0 #[rv b0, iv (own_n k), iv y2] []) _
    refine XS.aloadN X0.here hx rfl (hb hby d17_0) rfl rfl ?_
    refine st1 _ ?_
    refine XS.iloadN X1.here hx rfl (hb hby d17_4) rfl ?_
    refine X1.iaload hx (j := (own_n k)) (v := (.int (Fi k))) (by rw [e1]; exact Ar2.1) (State.isArrayOf_alike hZ.alike Ar2.2.1) Ar2.2.2 hin2 hat2 (g := (mkF m 5 #[rv b0, iv (own_n k), iv y2] [(.int (own_n k)), (.ref bi)])) rfl rfl (hb hby d17_5) _ ?_
    refine XT.iconstV X1.here hx rfl (-1 : Int32) (hb hby d17_6) (by decide) ?_
    refine XS.icmpYes X1.here hx rfl (pc0 := 7) (pc' := 20) rfl (hb hby d17_7) rfl (XT.ii_ne_t hi) (by decide) (by decide) ?_
    refine XS.aloadN X1.here hx rfl (hb hby d17_20) rfl rfl ?_
    refine st3 _ ?_
    refine XS.iloadN X3.here hx rfl (hb hby d17_24) rfl ?_
    refine XS.iloadN X3.here hx rfl (hb hby d17_25) rfl ?_
    show oS p e below T3 (mkF m 26 #[rv b0, iv (own_n k), iv y2] [(.int y2), (.int (own_n k)), (.ref bl)]) _
    refine st5 _ ?_
    exact kz)
  obtain ⟨fs, hr, hrun, hended, hW, hsame⟩ := X5.leave (v := none) (fun _ => rfl)
  refine ⟨_, _, pre0 _ (S6 _ ?_), hrun, hended, _, _, rfl, ?_, ⟨_, rfl⟩, hW, hsame.mono (by decide) (by decide)⟩
  · exact X5.returnOut hx Bd.returns (hb hby d17_27) hr
  have f7 := (hG.E.wr W5)
  have f8 := (hG.Fbf.other W5 (Or.inl (own_nd hS.nd 0 6 (by decide) rfl rfl)))
  have f9 := (hG.Fbg.other W5 (Or.inl (own_nd hS.nd 0 6 (by decide) rfl rfl)))
  have f10 := (hG.Fbh.other W5 (Or.inl (own_nd hS.nd 0 6 (by decide) rfl rfl)))
  have f11 := (hG.Fbv.other W5 (Or.inl (own_nd hS.nd 0 6 (by decide) rfl rfl)))
  have f12 := (hG.Fbi.other W5 (Or.inl (own_nd hS.nd 0 6 (by decide) rfl rfl)))
  have f13 := (hG.Fbl.other W5 (Or.inl (own_nd hS.nd 0 6 (by decide) rfl rfl)))
  have f14 := (hG.Fs.other W5 (Or.inl (own_nd hS.nd 0 6 (by decide) rfl rfl)))
  have f15 := (hG.Abf.other W5 (own_nd hS.nd 1 6 (by decide) rfl rfl))
  have f16 := (hG.Abg.other W5 (own_nd hS.nd 2 6 (by decide) rfl rfl))
  have f17 := (hG.Abh.other W5 (own_nd hS.nd 3 6 (by decide) rfl rfl))
  have f18 := (hG.Abv.other W5 (own_nd hS.nd 4 6 (by decide) rfl rfl))
  have f19 := (hG.Abi.other W5 (own_nd hS.nd 5 6 (by decide) rfl rfl))
  have G20 : own_Frm Z h5 b0 bf bg bh bv bi bl Ff Fg Fh Fv Fi (own_up Fl k y2) dp := own_Frm.mk f7 f8 f9 f10 f11 f12 f13 f14 f15 f16 f17 f18 f19 V5
  · show QrmSetL Z b0 bf bg bh bv bi bl Ff Fg Fh Fv Fi Fl dp k y2 h0 n0 _ T5.heap _
    rw [e5]
    exact ⟨rfl, N5, K5, G20⟩
theorem d9_0 : decode prog_72_method_3_code 0 = .ok (.aload_n 0, 1) := by decide +kernel
theorem d9_1 : decode prog_72_method_3_code 1 = .ok (.iload_n 1, 1) := by decide +kernel
theorem d9_2 : decode prog_72_method_3_code 2 = .ok (.iload_n 2, 1) := by decide +kernel
theorem d9_3 : decode prog_72_method_3_code 3 = .ok (.iload_n 3, 1) := by decide +kernel
theorem d9_4 : decode prog_72_method_3_code 4 = .ok (.invokevirtual 58, 3) := by decide +kernel
theorem d9_7 : decode prog_72_method_3_code 7 = .ok (.istore 4, 2) := by decide +kernel
theorem d9_9 : decode prog_72_method_3_code 9 = .ok (.iload 4, 2) := by decide +kernel
theorem d9_11 : decode prog_72_method_3_code 11 = .ok (.iconst (-1), 1) := by decide +kernel
theorem d9_12 : decode prog_72_method_3_code 12 = .ok (.if_icmp .eq 6, 3) := by decide +kernel
theorem d9_15 : decode prog_72_method_3_code 15 = .ok (.iload 4, 2) := by decide +kernel
theorem d9_17 : decode prog_72_method_3_code 17 = .ok (.ireturn, 1) := by decide +kernel
def QrmIteP (Z : State) (a0 : Addr) (y1 : Int32) (y2 : Int32) (y3 : Int32) (yr : Int32) (h0 : Heap) (n0 : Nat) (v : Option Value) (h : Heap) (L : List Loc) : Prop := v = some (.int yr) ∧ Fr n0 L ∧ h = h0
set_option maxRecDepth 65536 in
set_option maxHeartbeats 40000000 in
theorem rmIteP (l : Launch) (Z : State) (av0 : Array Value) (hw : ∀ d ∈ tables_1, d.before av0 Z = true) (ws : List Jvm.Cond) (a0 : Addr) (y1 : Int32) (y2 : Int32) (y3 : Int32) (yr : Int32) (h0 : Heap) (n0 : Nat) (Z0 : n0 ≤ h0.size) (hE : Exa Z h0 a0 "com/example/prolong/prolong/tree/DecisionDiagram") (hKP : own_KP y1 y2 y3 yr) (hyr : ¬ yr = -1) :
    own_Met l mN15 prog_72_method_3_code 14 (some .int) ws ({ frames := 3, cells := 7, slots := 103, locals := 48 } : Room) #[(.ref a0), (.int y1), (.int y2), (.int y3)] Z h0 (QrmIteP Z a0 y1 y2 y3 yr h0 n0) := by
  refine MetFree.of_bodySF (plainFor_of_name pn_DecisionDiagram) hisR ?_
  intro p e s m args below meth c s₁ Bd hml0 hP hK
  obtain ⟨rfl, hZ, hh⟩ := hP
  have hml : c.maxLocals = 14 := hml0
  obtain ⟨hx, hby, hown, hnm, X0, e0⟩ := own_start Bd hml0 hh
  have N0 := Fr.nil n0
  have pre0 : ∀ tz, oS p e below s₁ (mkF m 0 #[rv a0, iv y1, iv y2, iv y3, .unset, .unset, .unset, .unset, .unset, .unset, .unset, .unset, .unset, .unset] []) tz → Steps p.tables e below (s₁.setTop (entryFrame m #[(.ref a0), (.int y1), (.int y2), (.int y3)] 14)) tz := fun tz kz => castTop (by first | (simp [entryFrame, mkF, argsToLocals, Value.category]; done) | rfl) kz
  obtain ⟨_, T1, Lc1, X1, hQ1, st1⟩ := own_private (W := 0) (y := mN7) X0 hx hZ hown (hw _ (own_w 62 rfl)) (hw _ (own_w 4 rfl)) (hw _ (own_w 64 rfl)) (hw _ (own_w 63 rfl)) (hw _ (own_w 65 rfl)) (hw _ (own_w 5 rfl)) (by decide) (rmKP l Z av0 hw [] a0 y1 y2 y3 yr h0 n0 Z0 hKP) (by decide) (by decide) hE (g := (mkF m 4 #[rv a0, iv y1, iv y2, iv y3, .unset, .unset, .unset, .unset, .unset, .unset, .unset, .unset, .unset, .unset] [(.int y3), (.int y2), (.int y1), (.ref a0)])) rfl (by rw [hml]; rfl) (argsL := [(.int y1), (.int y2), (.int y3)]) (rest := []) (lenOf pd__III_I rfl) rfl (hb hby d9_4) rfl e0 (by decide : 0 + 0 ≤ _) (by decide : 0 + 0 ≤ _)
  obtain ⟨rfl, N1q, hh1⟩ := hQ1
  have N1 := Fr.app N0 N1q
  have e1 : T1.heap = h0 := hh1
  have S2 : ∀ tz, oS p e below T1 (mkF m 17 #[rv a0, iv y1, iv y2, iv y3, iv yr, .unset, .unset, .unset, .unset, .unset, .unset, .unset, .unset, .unset] [(.int yr)]) tz → oS p e below s₁ (mkF m 0 #[rv a0, iv y1, iv y2, iv y3, .unset, .unset, .unset, .unset, .unset, .unset, .unset, .unset, .unset, .unset] []) tz := fun tz kz => id (by
    show oS p e below s₁ (mkF m 0 #[rv a0, iv y1, iv y2, iv y3, .unset, .unset, .unset, .unset, .unset, .unset, .unset, .unset, .unset, .unset] []) _
    refine XS.aloadN X0.here hx rfl (hb hby d9_0) rfl rfl ?_
    refine XS.iloadN X0.here hx rfl (hb hby d9_1) rfl ?_
    refine XS.iloadN X0.here hx rfl (hb hby d9_2) rfl ?_
    refine XS.iloadN X0.here hx rfl (hb hby d9_3) rfl ?_
    refine st1 _ ?_
    refine XS.istore X1.here hx rfl (hb hby d9_7) rfl (l' := #[rv a0, iv y1, iv y2, iv y3, iv yr, .unset, .unset, .unset, .unset, .unset, .unset, .unset, .unset, .unset]) rfl ?_
    refine XS.iload X1.here hx rfl (hb hby d9_9) rfl ?_
    refine XT.iconstV X1.here hx rfl (-1 : Int32) (hb hby d9_11) (by decide) ?_
    refine XS.icmpNo X1.here hx rfl (hb hby d9_12) rfl (XT.ii_eq_f hyr) ?_
    refine XS.iload X1.here hx rfl (hb hby d9_15) rfl ?_
    show oS p e below T1 (mkF m 17 #[rv a0, iv y1, iv y2, iv y3, iv yr, .unset, .unset, .unset, .unset, .unset, .unset, .unset, .unset, .unset] [(.int yr)]) _
    exact kz)
  obtain ⟨fs, hr, hrun, hended, hW, hsame⟩ := X1.leave (v := some (.int yr)) (fun h => by rw [Bd.returns] at h; cases h)
  refine ⟨_, _, pre0 _ (S2 _ ?_), hrun, hended, _, _, rfl, ?_, ⟨_, rfl⟩, hW, hsame.mono (by decide) (by decide)⟩
  · exact retI X1 hx Bd.returns (hb hby d9_17) hr
  · show QrmIteP Z a0 y1 y2 y3 yr h0 n0 _ T1.heap _
    rw [e1]
    exact ⟨rfl, N1, rfl⟩
def QrmIteH (Z : State) (a0 : Addr) (av : Addr) (al : Addr) (ah : Addr) (au : Addr) (qa : Addr) (qb : Addr) (qc : Addr) (qd : Addr) (vr : Nat → Int32) (lw : Nat → Int32) (hg : Nat → Int32) (uq : Nat → Int32) (c1 : Nat → Int32) (c2 : Nat → Int32) (c3 : Nat → Int32) (c4 : Nat → Int32) (sz : Nat) (y1 : Int32) (y2 : Int32) (y3 : Int32) (yr : Int32) (h0 : Heap) (n0 : Nat) (v : Option Value) (h : Heap) (L : List Loc) : Prop := v = some (.int yr) ∧ Fr n0 L ∧ h = h0
set_option maxRecDepth 65536 in
set_option maxHeartbeats 40000000 in
theorem rmIteH (l : Launch) (Z : State) (av0 : Array Value) (hw : ∀ d ∈ tables_1, d.before av0 Z = true) (ws : List Jvm.Cond) (a0 : Addr) (av : Addr) (al : Addr) (ah : Addr) (au : Addr) (qa : Addr) (qb : Addr) (qc : Addr) (qd : Addr) (vr : Nat → Int32) (lw : Nat → Int32) (hg : Nat → Int32) (uq : Nat → Int32) (c1 : Nat → Int32) (c2 : Nat → Int32) (c3 : Nat → Int32) (c4 : Nat → Int32) (sz : Nat) (y1 : Int32) (y2 : Int32) (y3 : Int32) (yr : Int32) (h0 : Heap) (n0 : Nat) (Z0 : n0 ≤ h0.size) (hD : own_Dia Z h0 a0 av al ah au qa qb qc qd vr lw hg uq c1 c2 c3 c4 sz) (n1 : ¬ y1 = 1) (n23 : ¬ y2 = y3) (n0' : ¬ y1 = 0) (n10 : ¬ (y2 = 1 ∧ y3 = 0)) (ga1 : c1 (own_cs y1 y2 y3) = y1) (ga2 : c2 (own_cs y1 y2 y3) = y2) (ga3 : c3 (own_cs y1 y2 y3) = y3) (ga4 : c4 (own_cs y1 y2 y3) = yr) (hyr : ¬ yr = -1) :
    own_Met l mN15 prog_72_method_3_code 14 (some .int) ws ({ frames := 3, cells := 7, slots := 103, locals := 48 } : Room) #[(.ref a0), (.int y1), (.int y2), (.int y3)] Z h0 (QrmIteH Z a0 av al ah au qa qb qc qd vr lw hg uq c1 c2 c3 c4 sz y1 y2 y3 yr h0 n0) := by
  refine MetFree.of_bodySF (plainFor_of_name pn_DecisionDiagram) hisR ?_
  intro p e s m args below meth c s₁ Bd hml0 hP hK
  obtain ⟨rfl, hZ, hh⟩ := hP
  have hml : c.maxLocals = 14 := hml0
  obtain ⟨hx, hby, hown, hnm, X0, e0⟩ := own_start Bd hml0 hh
  have N0 := Fr.nil n0
  have pre0 : ∀ tz, oS p e below s₁ (mkF m 0 #[rv a0, iv y1, iv y2, iv y3, .unset, .unset, .unset, .unset, .unset, .unset, .unset, .unset, .unset, .unset] []) tz → Steps p.tables e below (s₁.setTop (entryFrame m #[(.ref a0), (.int y1), (.int y2), (.int y3)] 14)) tz := fun tz kz => castTop (by first | (simp [entryFrame, mkF, argsToLocals, Value.category]; done) | rfl) kz
  obtain ⟨_, T1, Lc1, X1, hQ1, st1⟩ := own_private (W := 0) (y := mN7) X0 hx hZ hown (hw _ (own_w 62 rfl)) (hw _ (own_w 4 rfl)) (hw _ (own_w 64 rfl)) (hw _ (own_w 63 rfl)) (hw _ (own_w 65 rfl)) (hw _ (own_w 5 rfl)) (by decide) (rmKH l Z av0 hw [] a0 av al ah au qa qb qc qd vr lw hg uq c1 c2 c3 c4 sz y1 y2 y3 yr h0 n0 Z0 hD n1 n23 n0' n10 ga1 ga2 ga3 ga4) (by decide) (by decide) hD.E (g := (mkF m 4 #[rv a0, iv y1, iv y2, iv y3, .unset, .unset, .unset, .unset, .unset, .unset, .unset, .unset, .unset, .unset] [(.int y3), (.int y2), (.int y1), (.ref a0)])) rfl (by rw [hml]; rfl) (argsL := [(.int y1), (.int y2), (.int y3)]) (rest := []) (lenOf pd__III_I rfl) rfl (hb hby d9_4) rfl e0 (by decide : 0 + 0 ≤ _) (by decide : 0 + 0 ≤ _)
  obtain ⟨rfl, N1q, hh1⟩ := hQ1
  have N1 := Fr.app N0 N1q
  have e1 : T1.heap = h0 := hh1
  have S2 : ∀ tz, oS p e below T1 (mkF m 17 #[rv a0, iv y1, iv y2, iv y3, iv yr, .unset, .unset, .unset, .unset, .unset, .unset, .unset, .unset, .unset] [(.int yr)]) tz → oS p e below s₁ (mkF m 0 #[rv a0, iv y1, iv y2, iv y3, .unset, .unset, .unset, .unset, .unset, .unset, .unset, .unset, .unset, .unset] []) tz := fun tz kz => id (by
    show oS p e below s₁ (mkF m 0 #[rv a0, iv y1, iv y2, iv y3, .unset, .unset, .unset, .unset, .unset, .unset, .unset, .unset, .unset, .unset] []) _
    refine XS.aloadN X0.here hx rfl (hb hby d9_0) rfl rfl ?_
    refine XS.iloadN X0.here hx rfl (hb hby d9_1) rfl ?_
    refine XS.iloadN X0.here hx rfl (hb hby d9_2) rfl ?_
    refine XS.iloadN X0.here hx rfl (hb hby d9_3) rfl ?_
    refine st1 _ ?_
    refine XS.istore X1.here hx rfl (hb hby d9_7) rfl (l' := #[rv a0, iv y1, iv y2, iv y3, iv yr, .unset, .unset, .unset, .unset, .unset, .unset, .unset, .unset, .unset]) rfl ?_
    refine XS.iload X1.here hx rfl (hb hby d9_9) rfl ?_
    refine XT.iconstV X1.here hx rfl (-1 : Int32) (hb hby d9_11) (by decide) ?_
    refine XS.icmpNo X1.here hx rfl (hb hby d9_12) rfl (XT.ii_eq_f hyr) ?_
    refine XS.iload X1.here hx rfl (hb hby d9_15) rfl ?_
    show oS p e below T1 (mkF m 17 #[rv a0, iv y1, iv y2, iv y3, iv yr, .unset, .unset, .unset, .unset, .unset, .unset, .unset, .unset, .unset] [(.int yr)]) _
    exact kz)
  obtain ⟨fs, hr, hrun, hended, hW, hsame⟩ := X1.leave (v := some (.int yr)) (fun h => by rw [Bd.returns] at h; cases h)
  refine ⟨_, _, pre0 _ (S2 _ ?_), hrun, hended, _, _, rfl, ?_, ⟨_, rfl⟩, hW, hsame.mono (by decide) (by decide)⟩
  · exact retI X1 hx Bd.returns (hb hby d9_17) hr
  · show QrmIteH Z a0 av al ah au qa qb qc qd vr lw hg uq c1 c2 c3 c4 sz y1 y2 y3 yr h0 n0 _ T1.heap _
    rw [e1]
    exact ⟨rfl, N1, rfl⟩
theorem own_nsub {i : Nat} (h : i + 1 < 2147483648) : own_n (i + 1) - 1 = own_n i := by
  rw [← own_nadd h]; simp
theorem own_n10 {g gz : Nat} (hg : g < 1000) (hb : gz < 1000) (h : ¬ (g = 1 ∧ gz = 0)) : ¬ (own_n g = 1 ∧ own_n gz = 0) := fun q => h ⟨own_ninj (j := 1) (by omega) (by decide) q.1, own_ninj (j := 0) (by omega) (by decide) q.2⟩
theorem own_f1 {f : Nat} (hf : f < 1000) (h : 2 ≤ f) : ¬ own_n f = 1 := own_nne (j := 1) (by omega) (by decide) (by omega)
theorem own_f0 {f : Nat} (hf : f < 1000) (h : 2 ≤ f) : ¬ own_n f = 0 := own_nne (j := 0) (by omega) (by decide) (by omega)
theorem d9_45 : decode prog_72_method_3_code 45 = .ok (.iload 6, 2) := by decide +kernel
theorem d9_47 : decode prog_72_method_3_code 47 = .ok (.iconst (-1), 1) := by decide +kernel
theorem d9_48 : decode prog_72_method_3_code 48 = .ok (.if_icmp .ne 270, 3) := by decide +kernel
theorem d9_51 : decode prog_72_method_3_code 51 = .ok (.aload 5, 2) := by decide +kernel
theorem d9_53 : decode prog_72_method_3_code 53 = .ok (.getfield 71, 3) := by decide +kernel
theorem d9_56 : decode prog_72_method_3_code 56 = .ok (.iconst 1, 1) := by decide +kernel
theorem d9_57 : decode prog_72_method_3_code 57 = .ok (.isub, 1) := by decide +kernel
theorem d9_58 : decode prog_72_method_3_code 58 = .ok (.istore 7, 2) := by decide +kernel
theorem d9_60 : decode prog_72_method_3_code 60 = .ok (.aload 5, 2) := by decide +kernel
theorem d9_62 : decode prog_72_method_3_code 62 = .ok (.getfield 74, 3) := by decide +kernel
theorem d9_65 : decode prog_72_method_3_code 65 = .ok (.iload 7, 2) := by decide +kernel
theorem d9_67 : decode prog_72_method_3_code 67 = .ok (.iaload, 1) := by decide +kernel
theorem d9_68 : decode prog_72_method_3_code 68 = .ok (.istore 8, 2) := by decide +kernel
theorem d9_70 : decode prog_72_method_3_code 70 = .ok (.aload 5, 2) := by decide +kernel
theorem d9_72 : decode prog_72_method_3_code 72 = .ok (.getfield 75, 3) := by decide +kernel
theorem d9_75 : decode prog_72_method_3_code 75 = .ok (.iload 7, 2) := by decide +kernel
theorem d9_77 : decode prog_72_method_3_code 77 = .ok (.iaload, 1) := by decide +kernel
theorem d9_78 : decode prog_72_method_3_code 78 = .ok (.iconst (-1), 1) := by decide +kernel
theorem d9_79 : decode prog_72_method_3_code 79 = .ok (.if_icmp .eq 15, 3) := by decide +kernel
theorem d9_94 : decode prog_72_method_3_code 94 = .ok (.aload 5, 2) := by decide +kernel
theorem d9_96 : decode prog_72_method_3_code 96 = .ok (.getfield 75, 3) := by decide +kernel
theorem d9_99 : decode prog_72_method_3_code 99 = .ok (.iload 7, 2) := by decide +kernel
theorem d9_101 : decode prog_72_method_3_code 101 = .ok (.iaload, 1) := by decide +kernel
theorem d9_102 : decode prog_72_method_3_code 102 = .ok (.iconst (-1), 1) := by decide +kernel
theorem d9_103 : decode prog_72_method_3_code 103 = .ok (.if_icmp .ne 7, 3) := by decide +kernel
theorem d9_106 : decode prog_72_method_3_code 106 = .ok (.iconst 1, 1) := by decide +kernel
theorem d9_107 : decode prog_72_method_3_code 107 = .ok (.goto 4, 3) := by decide +kernel
theorem d9_111 : decode prog_72_method_3_code 111 = .ok (.istore 9, 2) := by decide +kernel
theorem d9_113 : decode prog_72_method_3_code 113 = .ok (.aload_n 0, 1) := by decide +kernel
theorem d9_114 : decode prog_72_method_3_code 114 = .ok (.aload 5, 2) := by decide +kernel
theorem d9_116 : decode prog_72_method_3_code 116 = .ok (.getfield 77, 3) := by decide +kernel
theorem d9_119 : decode prog_72_method_3_code 119 = .ok (.iload 7, 2) := by decide +kernel
theorem d9_121 : decode prog_72_method_3_code 121 = .ok (.iaload, 1) := by decide +kernel
theorem d9_122 : decode prog_72_method_3_code 122 = .ok (.iload 8, 2) := by decide +kernel
theorem d9_124 : decode prog_72_method_3_code 124 = .ok (.iload 9, 2) := by decide +kernel
theorem d9_126 : decode prog_72_method_3_code 126 = .ok (.invokevirtual 80, 3) := by decide +kernel
theorem d9_129 : decode prog_72_method_3_code 129 = .ok (.istore 10, 2) := by decide +kernel
theorem d9_131 : decode prog_72_method_3_code 131 = .ok (.aload_n 0, 1) := by decide +kernel
theorem d9_132 : decode prog_72_method_3_code 132 = .ok (.aload 5, 2) := by decide +kernel
theorem d9_134 : decode prog_72_method_3_code 134 = .ok (.getfield 84, 3) := by decide +kernel
theorem d9_137 : decode prog_72_method_3_code 137 = .ok (.iload 7, 2) := by decide +kernel
theorem d9_139 : decode prog_72_method_3_code 139 = .ok (.iaload, 1) := by decide +kernel
theorem d9_140 : decode prog_72_method_3_code 140 = .ok (.iload 8, 2) := by decide +kernel
theorem d9_142 : decode prog_72_method_3_code 142 = .ok (.iload 9, 2) := by decide +kernel
theorem d9_144 : decode prog_72_method_3_code 144 = .ok (.invokevirtual 80, 3) := by decide +kernel
theorem d9_147 : decode prog_72_method_3_code 147 = .ok (.istore 11, 2) := by decide +kernel
theorem d9_149 : decode prog_72_method_3_code 149 = .ok (.aload_n 0, 1) := by decide +kernel
theorem d9_150 : decode prog_72_method_3_code 150 = .ok (.aload 5, 2) := by decide +kernel
theorem d9_152 : decode prog_72_method_3_code 152 = .ok (.getfield 87, 3) := by decide +kernel
theorem d9_155 : decode prog_72_method_3_code 155 = .ok (.iload 7, 2) := by decide +kernel
theorem d9_157 : decode prog_72_method_3_code 157 = .ok (.iaload, 1) := by decide +kernel
theorem d9_158 : decode prog_72_method_3_code 158 = .ok (.iload 8, 2) := by decide +kernel
theorem d9_160 : decode prog_72_method_3_code 160 = .ok (.iload 9, 2) := by decide +kernel
theorem d9_162 : decode prog_72_method_3_code 162 = .ok (.invokevirtual 80, 3) := by decide +kernel
theorem d9_165 : decode prog_72_method_3_code 165 = .ok (.istore 12, 2) := by decide +kernel
theorem d9_167 : decode prog_72_method_3_code 167 = .ok (.aload_n 0, 1) := by decide +kernel
theorem d9_168 : decode prog_72_method_3_code 168 = .ok (.iload 10, 2) := by decide +kernel
theorem d9_170 : decode prog_72_method_3_code 170 = .ok (.iload 11, 2) := by decide +kernel
theorem d9_172 : decode prog_72_method_3_code 172 = .ok (.iload 12, 2) := by decide +kernel
theorem d9_174 : decode prog_72_method_3_code 174 = .ok (.invokevirtual 58, 3) := by decide +kernel
theorem d9_177 : decode prog_72_method_3_code 177 = .ok (.istore 13, 2) := by decide +kernel
theorem d9_179 : decode prog_72_method_3_code 179 = .ok (.iload 13, 2) := by decide +kernel
theorem d9_181 : decode prog_72_method_3_code 181 = .ok (.iconst (-1), 1) := by decide +kernel
theorem d9_182 : decode prog_72_method_3_code 182 = .ok (.if_icmp .ne 27, 3) := by decide +kernel
theorem d9_209 : decode prog_72_method_3_code 209 = .ok (.aload 5, 2) := by decide +kernel
theorem d9_211 : decode prog_72_method_3_code 211 = .ok (.iload 7, 2) := by decide +kernel
theorem d9_213 : decode prog_72_method_3_code 213 = .ok (.iload 13, 2) := by decide +kernel
theorem d9_215 : decode prog_72_method_3_code 215 = .ok (.invokevirtual 90, 3) := by decide +kernel
theorem d9_218 : decode prog_72_method_3_code 218 = .ok (.goto 97, 3) := by decide +kernel
theorem d9_315 : decode prog_72_method_3_code 315 = .ok (.goto (-270), 3) := by decide +kernel
theorem pd__IIZ_I : parseMethodDescriptor "(IIZ)I" = some ⟨[.int, .int, .boolean], some .int⟩ := by decide +kernel
theorem pd__II_V : parseMethodDescriptor "(II)V" = some ⟨[.int, .int], none⟩ := by decide +kernel
set_option maxRecDepth 65536 in
set_option maxHeartbeats 40000000 in
theorem own_H1 {p : Program} {l : Launch} {e : Env} {s : State} {m : MethodId} {args : Array Value} {below : List Frame} {meth : Method} {c : Code} {T0 : State} {locs : List Loc} {Z : State} {av0 : Array Value} {h0 : Heap} {n0 : Nat} (a0 : Addr) (av : Addr) (al : Addr) (ah : Addr) (au : Addr) (qa : Addr) (qb : Addr) (qc : Addr) (qd : Addr) (vr : Nat → Int32) (lw : Nat → Int32) (hg : Nat → Int32) (uq : Nat → Int32) (c1 : Nat → Int32) (c2 : Nat → Int32) (c3 : Nat → Int32) (c4 : Nat → Int32) (sz : Nat) (b0 : Addr) (bf : Addr) (bg : Addr) (bh : Addr) (bv : Addr) (bi : Addr) (bl : Addr) (Ff : Nat → Int32) (Fg : Nat → Int32) (Fh : Nat → Int32) (Fv : Nat → Int32) (Fi : Nat → Int32) (Fl : Nat → Int32) (q : Nat) (f : Nat) (g : Nat) (gz : Nat) (yv : Int32) (s1 : Slot) (s2 : Slot) (s3 : Slot) (s4 : Slot) (x7 : Slot) (x8 : Slot) (x9 : Slot) (x10 : Slot) (x11 : Slot) (x12 : Slot) (x13 : Slot) (r1 : Nat) (r2 : Nat) (r3 : Nat) (rr : Nat) (X0 : Stand p l e ({ frames := 3, cells := 7, slots := 103, locals := 48 } : Room) s m args below meth c T0 locs 7 103) (hx : p.tables.exec = Jvm.exec) (hZ : Z.Warmed39 s.vm) (hw : ∀ d ∈ tables_1, d.before av0 Z = true) (hby : c.code = prog_72_method_3_code) (hml : c.maxLocals = 14) (hown : s.vm.findClass mN15.cls = some m.cls) (e0 : T0.heap = h0) (N0 : Fr n0 locs) (Z0 : n0 ≤ h0.size) (hD : own_Dia Z h0 a0 av al ah au qa qb qc qd vr lw hg uq c1 c2 c3 c4 sz) (hG : own_Frm Z h0 b0 bf bg bh bv bi bl Ff Fg Fh Fv Fi Fl (q + 1)) (hS : own_Sep n0 [a0, av, al, ah, au, qa, qb, qc, qd]) (hSG : own_Sep n0 [b0, bf, bg, bh, bv, bi, bl]) (dj : ∀ y ∈ [a0, av, al, ah, au, qa, qb, qc, qd], y ∉ [b0, bf, bg, bh, bv, bi, bl]) (hq : q < 14) (hFf : Ff q = own_n f) (hFg : Fg q = own_n g) (hFh : Fh q = own_n gz) (hFv : Fv q = yv) (hf : f < 1000) (hg' : g < 1000) (hh' : gz < 1000) (hx7 : own_I1 x7) (hx8 : own_I1 x8) (hx9 : own_I1 x9) (hx10 : own_I1 x10) (hx11 : own_I1 x11) (hx12 : own_I1 x12) (hx13 : own_I1 x13) (hi : Fi q = -1) (hc1 : (vr f = yv → hg f = own_n r1) ∧ (¬ vr f = yv → f = r1)) (hc2 : (vr g = yv → hg g = own_n r2) ∧ (¬ vr g = yv → g = r2)) (hc3 : (vr gz = yv → hg gz = own_n r3) ∧ (¬ vr gz = yv → gz = r3)) (hKP : own_KP (own_n r1) (own_n r2) (own_n r3) (own_n rr)) (hrr : rr < 1000) :
    ∃ (T' : State) (h' : Heap) (locs' : List Loc), Stand p l e ({ frames := 3, cells := 7, slots := 103, locals := 48 } : Room) s m args below meth c T' locs' 7 103 ∧ T'.heap = h' ∧ Fr n0 locs' ∧ Keep h0 h' [a0, av, al, ah, au, qa, qb, qc, qd, b0, bf, bg, bh, bv, bi, bl] ∧ own_Dia Z h' a0 av al ah au qa qb qc qd vr lw hg uq c1 c2 c3 c4 sz ∧ own_Frm Z h' b0 bf bg bh bv bi bl Ff Fg Fh Fv (own_up Fi q (own_n rr)) Fl (q + 1) ∧ ∀ tz, oS p e below T' (mkF m 45 #[rv a0, s1, s2, s3, s4, rv b0, iv (-1 : Int32), iv (own_n q), iv yv, iv 1, iv (own_n r1), iv (own_n r2), iv (own_n r3), iv (own_n rr)] []) tz → oS p e below T0 (mkF m 45 #[rv a0, s1, s2, s3, s4, rv b0, iv (-1 : Int32), x7, x8, x9, x10, x11, x12, x13] []) tz := by
  obtain ⟨T1, X1, e1, st1⟩ := getF X0 hx hZ hown (host := "") (Or.inl (hw _ (own_w 104 rfl))) Via.refl e0 hG.Fs (g := (mkF m 53 #[rv a0, s1, s2, s3, s4, rv b0, iv (-1 : Int32), x7, x8, x9, x10, x11, x12, x13] [(.ref b0)])) rfl rfl (hb hby d9_53)
  obtain ⟨T2, X2, e2, st2⟩ := getF X1 hx hZ hown (host := "") (Or.inl (hw _ (own_w 105 rfl))) Via.refl e1 hG.Fbv (g := (mkF m 62 #[rv a0, s1, s2, s3, s4, rv b0, iv (-1 : Int32), iv (own_n q), x8, x9, x10, x11, x12, x13] [(.ref b0)])) rfl rfl (hb hby d9_62)
  obtain ⟨kc3, cl3, Ar3, qk3, Sz3, Ng3, Hs3, Gs3⟩ := id hG.Abv
  have hin3 : ¬ ((own_n q) < 0 ∨ cl3.slots.size ≤ ((own_n q)).toNatClampNeg) := own_inb (n := 16) (k := q) Sz3 (by decide) (by omega)
  have hat3 : cl3.slots[((own_n q)).toNatClampNeg]? = some (.int yv) := own_at (n := 16) (k := q) (g := Fv) Hs3 Sz3 (by decide) (by omega) hFv
  obtain ⟨T4, X4, e4, st4⟩ := getF X2 hx hZ hown (host := "") (Or.inl (hw _ (own_w 106 rfl))) Via.refl e2 hG.Fbi (g := (mkF m 72 #[rv a0, s1, s2, s3, s4, rv b0, iv (-1 : Int32), iv (own_n q), iv yv, x9, x10, x11, x12, x13] [(.ref b0)])) rfl rfl (hb hby d9_72)
  obtain ⟨kc5, cl5, Ar5, qk5, Sz5, Ng5, Hs5, Gs5⟩ := id hG.Abi
  have hin5 : ¬ ((own_n q) < 0 ∨ cl5.slots.size ≤ ((own_n q)).toNatClampNeg) := own_inb (n := 16) (k := q) Sz5 (by decide) (by omega)
  have hat5 : cl5.slots[((own_n q)).toNatClampNeg]? = some (.int (-1 : Int32)) := own_at (n := 16) (k := q) (g := Fi) Hs5 Sz5 (by decide) (by omega) hi
  obtain ⟨T6, X6, e6, st6⟩ := getF X4 hx hZ hown (host := "") (Or.inl (hw _ (own_w 106 rfl))) Via.refl e4 hG.Fbi (g := (mkF m 96 #[rv a0, s1, s2, s3, s4, rv b0, iv (-1 : Int32), iv (own_n q), iv yv, x9, x10, x11, x12, x13] [(.ref b0)])) rfl rfl (hb hby d9_96)
  obtain ⟨kc7, cl7, Ar7, qk7, Sz7, Ng7, Hs7, Gs7⟩ := id hG.Abi
  have hin7 : ¬ ((own_n q) < 0 ∨ cl7.slots.size ≤ ((own_n q)).toNatClampNeg) := own_inb (n := 16) (k := q) Sz7 (by decide) (by omega)
  have hat7 : cl7.slots[((own_n q)).toNatClampNeg]? = some (.int (-1 : Int32)) := own_at (n := 16) (k := q) (g := Fi) Hs7 Sz7 (by decide) (by omega) hi
  obtain ⟨T8, X8, e8, st8⟩ := getF X6 hx hZ hown (host := "") (Or.inl (hw _ (own_w 107 rfl))) Via.refl e6 hG.Fbf (g := (mkF m 116 #[rv a0, s1, s2, s3, s4, rv b0, iv (-1 : Int32), iv (own_n q), iv yv, iv 1, x10, x11, x12, x13] [(.ref b0), (.ref a0)])) rfl rfl (hb hby d9_116)
  obtain ⟨kc9, cl9, Ar9, qk9, Sz9, Ng9, Hs9, Gs9⟩ := id hG.Abf
  have hin9 : ¬ ((own_n q) < 0 ∨ cl9.slots.size ≤ ((own_n q)).toNatClampNeg) := own_inb (n := 16) (k := q) Sz9 (by decide) (by omega)
  have hat9 : cl9.slots[((own_n q)).toNatClampNeg]? = some (.int (own_n f)) := own_at (n := 16) (k := q) (g := Ff) Hs9 Sz9 (by decide) (by omega) hFf
  obtain ⟨_, T10, Lc10, X10, hQ10, st10⟩ := own_private (W := 0) (y := mN10) X8 hx hZ hown (hw _ (own_w 108 rfl)) (hw _ (own_w 4 rfl)) (hw _ (own_w 110 rfl)) (hw _ (own_w 109 rfl)) (hw _ (own_w 111 rfl)) (hw _ (own_w 5 rfl)) (by decide) (rmCof1 l Z av0 hw [] a0 av al ah au qa qb qc qd vr lw hg uq c1 c2 c3 c4 sz f r1 yv h0 n0 Z0 hD hf hc1) (by decide) (by decide) hD.E (g := (mkF m 126 #[rv a0, s1, s2, s3, s4, rv b0, iv (-1 : Int32), iv (own_n q), iv yv, iv 1, x10, x11, x12, x13] [(.int 1), (.int yv), (.int (own_n f)), (.ref a0)])) rfl (by rw [hml]; rfl) (argsL := [(.int (own_n f)), (.int yv), (.int 1)]) (rest := []) (lenOf pd__IIZ_I rfl) rfl (hb hby d9_126) rfl e8 (by decide : 7 + 0 ≤ _) (by decide : 103 + 0 ≤ _)
  obtain ⟨rfl, N10q, hh10⟩ := hQ10
  have N10 := Fr.app N0 N10q
  have e10 : T10.heap = h0 := hh10
  obtain ⟨T11, X11, e11, st11⟩ := getF X10 hx hZ hown (host := "") (Or.inl (hw _ (own_w 112 rfl))) Via.refl e10 hG.Fbg (g := (mkF m 134 #[rv a0, s1, s2, s3, s4, rv b0, iv (-1 : Int32), iv (own_n q), iv yv, iv 1, iv (own_n r1), x11, x12, x13] [(.ref b0), (.ref a0)])) rfl rfl (hb hby d9_134)
  obtain ⟨kc12, cl12, Ar12, qk12, Sz12, Ng12, Hs12, Gs12⟩ := id hG.Abg
  have hin12 : ¬ ((own_n q) < 0 ∨ cl12.slots.size ≤ ((own_n q)).toNatClampNeg) := own_inb (n := 16) (k := q) Sz12 (by decide) (by omega)
  have hat12 : cl12.slots[((own_n q)).toNatClampNeg]? = some (.int (own_n g)) := own_at (n := 16) (k := q) (g := Fg) Hs12 Sz12 (by decide) (by omega) hFg
  obtain ⟨_, T13, Lc13, X13, hQ13, st13⟩ := own_private (W := 0) (y := mN10) X11 hx hZ hown (hw _ (own_w 108 rfl)) (hw _ (own_w 4 rfl)) (hw _ (own_w 110 rfl)) (hw _ (own_w 109 rfl)) (hw _ (own_w 111 rfl)) (hw _ (own_w 5 rfl)) (by decide) (rmCof1 l Z av0 hw [] a0 av al ah au qa qb qc qd vr lw hg uq c1 c2 c3 c4 sz g r2 yv h0 n0 Z0 hD hg' hc2) (by decide) (by decide) hD.E (g := (mkF m 144 #[rv a0, s1, s2, s3, s4, rv b0, iv (-1 : Int32), iv (own_n q), iv yv, iv 1, iv (own_n r1), x11, x12, x13] [(.int 1), (.int yv), (.int (own_n g)), (.ref a0)])) rfl (by rw [hml]; rfl) (argsL := [(.int (own_n g)), (.int yv), (.int 1)]) (rest := []) (lenOf pd__IIZ_I rfl) rfl (hb hby d9_144) rfl e11 (by decide : 7 + 0 ≤ _) (by decide : 103 + 0 ≤ _)
  obtain ⟨rfl, N13q, hh13⟩ := hQ13
  have N13 := Fr.app N10 N13q
  have e13 : T13.heap = h0 := hh13
  obtain ⟨T14, X14, e14, st14⟩ := getF X13 hx hZ hown (host := "") (Or.inl (hw _ (own_w 113 rfl))) Via.refl e13 hG.Fbh (g := (mkF m 152 #[rv a0, s1, s2, s3, s4, rv b0, iv (-1 : Int32), iv (own_n q), iv yv, iv 1, iv (own_n r1), iv (own_n r2), x12, x13] [(.ref b0), (.ref a0)])) rfl rfl (hb hby d9_152)
  obtain ⟨kc15, cl15, Ar15, qk15, Sz15, Ng15, Hs15, Gs15⟩ := id hG.Abh
  have hin15 : ¬ ((own_n q) < 0 ∨ cl15.slots.size ≤ ((own_n q)).toNatClampNeg) := own_inb (n := 16) (k := q) Sz15 (by decide) (by omega)
  have hat15 : cl15.slots[((own_n q)).toNatClampNeg]? = some (.int (own_n gz)) := own_at (n := 16) (k := q) (g := Fh) Hs15 Sz15 (by decide) (by omega) hFh
  obtain ⟨_, T16, Lc16, X16, hQ16, st16⟩ := own_private (W := 0) (y := mN10) X14 hx hZ hown (hw _ (own_w 108 rfl)) (hw _ (own_w 4 rfl)) (hw _ (own_w 110 rfl)) (hw _ (own_w 109 rfl)) (hw _ (own_w 111 rfl)) (hw _ (own_w 5 rfl)) (by decide) (rmCof1 l Z av0 hw [] a0 av al ah au qa qb qc qd vr lw hg uq c1 c2 c3 c4 sz gz r3 yv h0 n0 Z0 hD hh' hc3) (by decide) (by decide) hD.E (g := (mkF m 162 #[rv a0, s1, s2, s3, s4, rv b0, iv (-1 : Int32), iv (own_n q), iv yv, iv 1, iv (own_n r1), iv (own_n r2), x12, x13] [(.int 1), (.int yv), (.int (own_n gz)), (.ref a0)])) rfl (by rw [hml]; rfl) (argsL := [(.int (own_n gz)), (.int yv), (.int 1)]) (rest := []) (lenOf pd__IIZ_I rfl) rfl (hb hby d9_162) rfl e14 (by decide : 7 + 0 ≤ _) (by decide : 103 + 0 ≤ _)
  obtain ⟨rfl, N16q, hh16⟩ := hQ16
  have N16 := Fr.app N13 N16q
  have e16 : T16.heap = h0 := hh16
  obtain ⟨_, T17, Lc17, X17, hQ17, st17⟩ := own_private (W := 0) (y := mN7) X16 hx hZ hown (hw _ (own_w 62 rfl)) (hw _ (own_w 4 rfl)) (hw _ (own_w 64 rfl)) (hw _ (own_w 63 rfl)) (hw _ (own_w 65 rfl)) (hw _ (own_w 5 rfl)) (by decide) (rmKP l Z av0 hw [] a0 (own_n r1) (own_n r2) (own_n r3) (own_n rr) h0 n0 Z0 hKP) (by decide) (by decide) hD.E (g := (mkF m 174 #[rv a0, s1, s2, s3, s4, rv b0, iv (-1 : Int32), iv (own_n q), iv yv, iv 1, iv (own_n r1), iv (own_n r2), iv (own_n r3), x13] [(.int (own_n r3)), (.int (own_n r2)), (.int (own_n r1)), (.ref a0)])) rfl (by rw [hml]; rfl) (argsL := [(.int (own_n r1)), (.int (own_n r2)), (.int (own_n r3))]) (rest := []) (lenOf pd__III_I rfl) rfl (hb hby d9_174) rfl e16 (by decide : 7 + 0 ≤ _) (by decide : 103 + 0 ≤ _)
  obtain ⟨rfl, N17q, hh17⟩ := hQ17
  have N17 := Fr.app N16 N17q
  have e17 : T17.heap = h0 := hh17
  obtain ⟨_, T18, Lc18, X18, hQ18, st18⟩ := own_virtual (W := 0) (y := mN14) (z := mN14) X17 hx hZ hown (hw _ (own_w 114 rfl)) (hw _ (own_w 115 rfl)) (notFace_of_selects (args := #[]) (mvT hZ (hw _ (own_w 117 rfl)))) (hw _ (own_w 117 rfl)) (hw _ (own_w 116 rfl)) (hw _ (own_w 118 rfl)) (hw _ (own_w 72 rfl)) (by decide) (rmSetH l Z av0 hw [] b0 bf bg bh bv bi bl Ff Fg Fh Fv Fi Fl (q + 1) q (own_n rr) h0 n0 Z0 hG hSG (by omega) hi) (by decide) (by decide) hG.E (g := (mkF m 215 #[rv a0, s1, s2, s3, s4, rv b0, iv (-1 : Int32), iv (own_n q), iv yv, iv 1, iv (own_n r1), iv (own_n r2), iv (own_n r3), iv (own_n rr)] [(.int (own_n rr)), (.int (own_n q)), (.ref b0)])) rfl (by rw [hml]; rfl) (argsL := [(.int (own_n q)), (.int (own_n rr))]) (rest := []) (lenOf pd__II_V rfl) rfl (hb hby d9_215) rfl e17 (by decide : 7 + 0 ≤ _) (by decide : 103 + 0 ≤ _)
  obtain ⟨rfl, N18q, K18, G18⟩ := hQ18
  have N18 := Fr.app N17 N18q
  have e18 : T18.heap = T18.heap := rfl
  have Zk18 : n0 ≤ T18.heap.size := Nat.le_trans Z0 K18.1
  have Kk18 : Keep h0 T18.heap [a0, av, al, ah, au, qa, qb, qc, qd, b0, bf, bg, bh, bv, bi, bl] := (Keep.refl h0 [a0, av, al, ah, au, qa, qb, qc, qd, b0, bf, bg, bh, bv, bi, bl]).trans K18 (allS (Or.inl (List.mem_of_getElem? (i := 9) rfl)) (allS (Or.inl (List.mem_of_getElem? (i := 10) rfl)) (allS (Or.inl (List.mem_of_getElem? (i := 11) rfl)) (allS (Or.inl (List.mem_of_getElem? (i := 12) rfl)) (allS (Or.inl (List.mem_of_getElem? (i := 13) rfl)) (allS (Or.inl (List.mem_of_getElem? (i := 14) rfl)) (allS (Or.inl (List.mem_of_getElem? (i := 15) rfl)) all0)))))))
  have Dk18 := hD.keep K18 dj
  have S19 : ∀ tz, oS p e below T18 (mkF m 45 #[rv a0, s1, s2, s3, s4, rv b0, iv (-1 : Int32), iv (own_n q), iv yv, iv 1, iv (own_n r1), iv (own_n r2), iv (own_n r3), iv (own_n rr)] []) tz → oS p e below T0 (mkF m 45 #[rv a0, s1, s2, s3, s4, rv b0, iv (-1 : Int32), x7, x8, x9, x10, x11, x12, x13] []) tz := fun tz kz => id (by
    show oS p e below T0 (mkF m 45 #[rv a0, s1, s2, s3, s4, rv b0, iv (-1 : Int32), x7, x8, x9, x10, x11, x12, x13] []) _
    refine XS.iload X0.here hx rfl (hb hby d9_45) rfl ?_
    refine XT.iconstV X0.here hx rfl (-1 : Int32) (hb hby d9_47) (by decide) ?_
    refine XS.icmpNo X0.here hx rfl (hb hby d9_48) rfl (XT.ii_ne_f (by decide)) ?_
    refine XS.aload X0.here hx rfl (hb hby d9_51) rfl rfl ?_
    refine st1 _ ?_
    refine XT.iconstV X1.here hx rfl (1 : Int32) (hb hby d9_56) (by decide) ?_
    refine XS.isub X1.here hx rfl (hb hby d9_57) rfl ?_
    show oS p e below T1 (mkF m 58 #[rv a0, s1, s2, s3, s4, rv b0, iv (-1 : Int32), x7, x8, x9, x10, x11, x12, x13] [(.int ((own_n (q + 1)) - (1 : Int32)))]) _
    rw [own_nsub (by omega)]
    show oS p e below T1 (mkF m 58 #[rv a0, s1, s2, s3, s4, rv b0, iv (-1 : Int32), x7, x8, x9, x10, x11, x12, x13] [(.int (own_n q))]) _
    refine XS.istore X1.here hx rfl (hb hby d9_58) rfl (l' := #[rv a0, s1, s2, s3, s4, rv b0, iv (-1 : Int32), iv (own_n q), x8, x9, x10, x11, x12, x13]) (by rcases hx7 with z | ⟨y, z⟩ <;> subst z <;> rfl) ?_
    refine XS.aload X1.here hx rfl (hb hby d9_60) rfl rfl ?_
    show oS p e below T1 (mkF m 62 #[rv a0, s1, s2, s3, s4, rv b0, iv (-1 : Int32), iv (own_n q), x8, x9, x10, x11, x12, x13] [(.ref b0)]) _
    refine st2 _ ?_
    refine XS.iload X2.here hx rfl (hb hby d9_65) rfl ?_
    refine X2.iaload hx (j := (own_n q)) (v := (.int yv)) (by rw [e2]; exact Ar3.1) (State.isArrayOf_alike hZ.alike Ar3.2.1) Ar3.2.2 hin3 hat3 (g := (mkF m 67 #[rv a0, s1, s2, s3, s4, rv b0, iv (-1 : Int32), iv (own_n q), x8, x9, x10, x11, x12, x13] [(.int (own_n q)), (.ref bv)])) rfl rfl (hb hby d9_67) _ ?_
    refine XS.istore X2.here hx rfl (hb hby d9_68) rfl (l' := #[rv a0, s1, s2, s3, s4, rv b0, iv (-1 : Int32), iv (own_n q), iv yv, x9, x10, x11, x12, x13]) (by rcases hx8 with z | ⟨y, z⟩ <;> subst z <;> rfl) ?_
    refine XS.aload X2.here hx rfl (hb hby d9_70) rfl rfl ?_
    refine st4 _ ?_
    refine XS.iload X4.here hx rfl (hb hby d9_75) rfl ?_
    refine X4.iaload hx (j := (own_n q)) (v := (.int (-1 : Int32))) (by rw [e4]; exact Ar5.1) (State.isArrayOf_alike hZ.alike Ar5.2.1) Ar5.2.2 hin5 hat5 (g := (mkF m 77 #[rv a0, s1, s2, s3, s4, rv b0, iv (-1 : Int32), iv (own_n q), iv yv, x9, x10, x11, x12, x13] [(.int (own_n q)), (.ref bi)])) rfl rfl (hb hby d9_77) _ ?_
    refine XT.iconstV X4.here hx rfl (-1 : Int32) (hb hby d9_78) (by decide) ?_
    refine XS.icmpYes X4.here hx rfl (pc0 := 79) (pc' := 94) rfl (hb hby d9_79) rfl (XT.ii_eq_t (by decide)) (by decide) (by decide) ?_
    show oS p e below T4 (mkF m 94 #[rv a0, s1, s2, s3, s4, rv b0, iv (-1 : Int32), iv (own_n q), iv yv, x9, x10, x11, x12, x13] []) _
    refine XS.aload X4.here hx rfl (hb hby d9_94) rfl rfl ?_
    refine st6 _ ?_
    refine XS.iload X6.here hx rfl (hb hby d9_99) rfl ?_
    refine X6.iaload hx (j := (own_n q)) (v := (.int (-1 : Int32))) (by rw [e6]; exact Ar7.1) (State.isArrayOf_alike hZ.alike Ar7.2.1) Ar7.2.2 hin7 hat7 (g := (mkF m 101 #[rv a0, s1, s2, s3, s4, rv b0, iv (-1 : Int32), iv (own_n q), iv yv, x9, x10, x11, x12, x13] [(.int (own_n q)), (.ref bi)])) rfl rfl (hb hby d9_101) _ ?_
    refine XT.iconstV X6.here hx rfl (-1 : Int32) (hb hby d9_102) (by decide) ?_
    refine XS.icmpNo X6.here hx rfl (hb hby d9_103) rfl (XT.ii_ne_f (by decide)) ?_
    refine XT.iconstV X6.here hx rfl (1 : Int32) (hb hby d9_106) (by decide) ?_
    refine XS.goto X6.here hx rfl (pc0 := 107) (pc' := 111) rfl (hb hby d9_107) (by decide) (by decide) ?_
    refine XS.istore X6.here hx rfl (hb hby d9_111) rfl (l' := #[rv a0, s1, s2, s3, s4, rv b0, iv (-1 : Int32), iv (own_n q), iv yv, iv 1, x10, x11, x12, x13]) (by rcases hx9 with z | ⟨y, z⟩ <;> subst z <;> rfl) ?_
    refine XS.aloadN X6.here hx rfl (hb hby d9_113) rfl rfl ?_
    show oS p e below T6 (mkF m 114 #[rv a0, s1, s2, s3, s4, rv b0, iv (-1 : Int32), iv (own_n q), iv yv, iv 1, x10, x11, x12, x13] [(.ref a0)]) _
    refine XS.aload X6.here hx rfl (hb hby d9_114) rfl rfl ?_
    refine st8 _ ?_
    refine XS.iload X8.here hx rfl (hb hby d9_119) rfl ?_
    refine X8.iaload hx (j := (own_n q)) (v := (.int (own_n f))) (by rw [e8]; exact Ar9.1) (State.isArrayOf_alike hZ.alike Ar9.2.1) Ar9.2.2 hin9 hat9 (g := (mkF m 121 #[rv a0, s1, s2, s3, s4, rv b0, iv (-1 : Int32), iv (own_n q), iv yv, iv 1, x10, x11, x12, x13] [(.int (own_n q)), (.ref bf), (.ref a0)])) rfl rfl (hb hby d9_121) _ ?_
    refine XS.iload X8.here hx rfl (hb hby d9_122) rfl ?_
    refine XS.iload X8.here hx rfl (hb hby d9_124) rfl ?_
    refine st10 _ ?_
    refine XS.istore X10.here hx rfl (hb hby d9_129) rfl (l' := #[rv a0, s1, s2, s3, s4, rv b0, iv (-1 : Int32), iv (own_n q), iv yv, iv 1, iv (own_n r1), x11, x12, x13]) (by rcases hx10 with z | ⟨y, z⟩ <;> subst z <;> rfl) ?_
    refine XS.aloadN X10.here hx rfl (hb hby d9_131) rfl rfl ?_
    refine XS.aload X10.here hx rfl (hb hby d9_132) rfl rfl ?_
    show oS p e below T10 (mkF m 134 #[rv a0, s1, s2, s3, s4, rv b0, iv (-1 : Int32), iv (own_n q), iv yv, iv 1, iv (own_n r1), x11, x12, x13] [(.ref b0), (.ref a0)]) _
    refine st11 _ ?_
    refine XS.iload X11.here hx rfl (hb hby d9_137) rfl ?_
    refine X11.iaload hx (j := (own_n q)) (v := (.int (own_n g))) (by rw [e11]; exact Ar12.1) (State.isArrayOf_alike hZ.alike Ar12.2.1) Ar12.2.2 hin12 hat12 (g := (mkF m 139 #[rv a0, s1, s2, s3, s4, rv b0, iv (-1 : Int32), iv (own_n q), iv yv, iv 1, iv (own_n r1), x11, x12, x13] [(.int (own_n q)), (.ref bg), (.ref a0)])) rfl rfl (hb hby d9_139) _ ?_
    refine XS.iload X11.here hx rfl (hb hby d9_140) rfl ?_
    refine XS.iload X11.here hx rfl (hb hby d9_142) rfl ?_
    refine st13 _ ?_
    refine XS.istore X13.here hx rfl (hb hby d9_147) rfl (l' := #[rv a0, s1, s2, s3, s4, rv b0, iv (-1 : Int32), iv (own_n q), iv yv, iv 1, iv (own_n r1), iv (own_n r2), x12, x13]) (by rcases hx11 with z | ⟨y, z⟩ <;> subst z <;> rfl) ?_
    refine XS.aloadN X13.here hx rfl (hb hby d9_149) rfl rfl ?_
    refine XS.aload X13.here hx rfl (hb hby d9_150) rfl rfl ?_
    refine st14 _ ?_
    show oS p e below T14 (mkF m 155 #[rv a0, s1, s2, s3, s4, rv b0, iv (-1 : Int32), iv (own_n q), iv yv, iv 1, iv (own_n r1), iv (own_n r2), x12, x13] [(.ref bh), (.ref a0)]) _
    refine XS.iload X14.here hx rfl (hb hby d9_155) rfl ?_
    refine X14.iaload hx (j := (own_n q)) (v := (.int (own_n gz))) (by rw [e14]; exact Ar15.1) (State.isArrayOf_alike hZ.alike Ar15.2.1) Ar15.2.2 hin15 hat15 (g := (mkF m 157 #[rv a0, s1, s2, s3, s4, rv b0, iv (-1 : Int32), iv (own_n q), iv yv, iv 1, iv (own_n r1), iv (own_n r2), x12, x13] [(.int (own_n q)), (.ref bh), (.ref a0)])) rfl rfl (hb hby d9_157) _ ?_
    refine XS.iload X14.here hx rfl (hb hby d9_158) rfl ?_
    refine XS.iload X14.here hx rfl (hb hby d9_160) rfl ?_
    refine st16 _ ?_
    refine XS.istore X16.here hx rfl (hb hby d9_165) rfl (l' := #[rv a0, s1, s2, s3, s4, rv b0, iv (-1 : Int32), iv (own_n q), iv yv, iv 1, iv (own_n r1), iv (own_n r2), iv (own_n r3), x13]) (by rcases hx12 with z | ⟨y, z⟩ <;> subst z <;> rfl) ?_
    refine XS.aloadN X16.here hx rfl (hb hby d9_167) rfl rfl ?_
    refine XS.iload X16.here hx rfl (hb hby d9_168) rfl ?_
    refine XS.iload X16.here hx rfl (hb hby d9_170) rfl ?_
    refine XS.iload X16.here hx rfl (hb hby d9_172) rfl ?_
    show oS p e below T16 (mkF m 174 #[rv a0, s1, s2, s3, s4, rv b0, iv (-1 : Int32), iv (own_n q), iv yv, iv 1, iv (own_n r1), iv (own_n r2), iv (own_n r3), x13] [(.int (own_n r3)), (.int (own_n r2)), (.int (own_n r1)), (.ref a0)]) _
    refine st17 _ ?_
    refine XS.istore X17.here hx rfl (hb hby d9_177) rfl (l' := #[rv a0, s1, s2, s3, s4, rv b0, iv (-1 : Int32), iv (own_n q), iv yv, iv 1, iv (own_n r1), iv (own_n r2), iv (own_n r3), iv (own_n rr)]) (by rcases hx13 with z | ⟨y, z⟩ <;> subst z <;> rfl) ?_
    refine XS.iload X17.here hx rfl (hb hby d9_179) rfl ?_
    refine XT.iconstV X17.here hx rfl (-1 : Int32) (hb hby d9_181) (by decide) ?_
    refine XS.icmpYes X17.here hx rfl (pc0 := 182) (pc' := 209) rfl (hb hby d9_182) rfl (XT.ii_ne_t (own_nm (by omega))) (by decide) (by decide) ?_
    refine XS.aload X17.here hx rfl (hb hby d9_209) rfl rfl ?_
    refine XS.iload X17.here hx rfl (hb hby d9_211) rfl ?_
    refine XS.iload X17.here hx rfl (hb hby d9_213) rfl ?_
    refine st18 _ ?_
    refine XS.goto X18.here hx rfl (pc0 := 218) (pc' := 315) rfl (hb hby d9_218) (by decide) (by decide) ?_
    show oS p e below T18 (mkF m 315 #[rv a0, s1, s2, s3, s4, rv b0, iv (-1 : Int32), iv (own_n q), iv yv, iv 1, iv (own_n r1), iv (own_n r2), iv (own_n r3), iv (own_n rr)] []) _
    refine XS.goto X18.here hx rfl (pc0 := 315) (pc' := 45) rfl (hb hby d9_315) (by decide) (by decide) ?_
    exact kz)
  exact ⟨T18, _, _, X18, e18, N18, Kk18, Dk18, G18, fun tz kz => S19 tz kz⟩
theorem d9_185 : decode prog_72_method_3_code 185 = .ok (.aload 5, 2) := by decide +kernel
theorem d9_187 : decode prog_72_method_3_code 187 = .ok (.iload 10, 2) := by decide +kernel
theorem d9_189 : decode prog_72_method_3_code 189 = .ok (.iload 11, 2) := by decide +kernel
theorem d9_191 : decode prog_72_method_3_code 191 = .ok (.iload 12, 2) := by decide +kernel
theorem d9_193 : decode prog_72_method_3_code 193 = .ok (.aload_n 0, 1) := by decide +kernel
theorem d9_194 : decode prog_72_method_3_code 194 = .ok (.iload 10, 2) := by decide +kernel
theorem d9_196 : decode prog_72_method_3_code 196 = .ok (.iload 11, 2) := by decide +kernel
theorem d9_198 : decode prog_72_method_3_code 198 = .ok (.iload 12, 2) := by decide +kernel
theorem d9_200 : decode prog_72_method_3_code 200 = .ok (.invokevirtual 64, 3) := by decide +kernel
theorem d9_203 : decode prog_72_method_3_code 203 = .ok (.invokevirtual 67, 3) := by decide +kernel
theorem d9_206 : decode prog_72_method_3_code 206 = .ok (.goto 12, 3) := by decide +kernel
theorem pd__IIII_V : parseMethodDescriptor "(IIII)V" = some ⟨[.int, .int, .int, .int], none⟩ := by decide +kernel
set_option maxRecDepth 65536 in
set_option maxHeartbeats 40000000 in
theorem own_B1 {p : Program} {l : Launch} {e : Env} {s : State} {m : MethodId} {args : Array Value} {below : List Frame} {meth : Method} {c : Code} {T0 : State} {locs : List Loc} {Z : State} {av0 : Array Value} {h0 : Heap} {n0 : Nat} (a0 : Addr) (av : Addr) (al : Addr) (ah : Addr) (au : Addr) (qa : Addr) (qb : Addr) (qc : Addr) (qd : Addr) (vr : Nat → Int32) (lw : Nat → Int32) (hg : Nat → Int32) (uq : Nat → Int32) (c1 : Nat → Int32) (c2 : Nat → Int32) (c3 : Nat → Int32) (c4 : Nat → Int32) (sz : Nat) (b0 : Addr) (bf : Addr) (bg : Addr) (bh : Addr) (bv : Addr) (bi : Addr) (bl : Addr) (Ff : Nat → Int32) (Fg : Nat → Int32) (Fh : Nat → Int32) (Fv : Nat → Int32) (Fi : Nat → Int32) (Fl : Nat → Int32) (q : Nat) (f : Nat) (g : Nat) (gz : Nat) (yv : Int32) (s1 : Slot) (s2 : Slot) (s3 : Slot) (s4 : Slot) (x7 : Slot) (x8 : Slot) (x9 : Slot) (x10 : Slot) (x11 : Slot) (x12 : Slot) (x13 : Slot) (r1 : Nat) (r2 : Nat) (r3 : Nat) (yw : Int32) (X0 : Stand p l e ({ frames := 3, cells := 7, slots := 103, locals := 48 } : Room) s m args below meth c T0 locs 7 103) (hx : p.tables.exec = Jvm.exec) (hZ : Z.Warmed39 s.vm) (hw : ∀ d ∈ tables_1, d.before av0 Z = true) (hby : c.code = prog_72_method_3_code) (hml : c.maxLocals = 14) (hown : s.vm.findClass mN15.cls = some m.cls) (e0 : T0.heap = h0) (N0 : Fr n0 locs) (Z0 : n0 ≤ h0.size) (hD : own_Dia Z h0 a0 av al ah au qa qb qc qd vr lw hg uq c1 c2 c3 c4 sz) (hG : own_Frm Z h0 b0 bf bg bh bv bi bl Ff Fg Fh Fv Fi Fl (q + 1)) (hS : own_Sep n0 [a0, av, al, ah, au, qa, qb, qc, qd]) (hSG : own_Sep n0 [b0, bf, bg, bh, bv, bi, bl]) (dj : ∀ y ∈ [a0, av, al, ah, au, qa, qb, qc, qd], y ∉ [b0, bf, bg, bh, bv, bi, bl]) (hq : q < 14) (hFf : Ff q = own_n f) (hFg : Fg q = own_n g) (hFh : Fh q = own_n gz) (hFv : Fv q = yv) (hf : f < 1000) (hg' : g < 1000) (hh' : gz < 1000) (hx7 : own_I1 x7) (hx8 : own_I1 x8) (hx9 : own_I1 x9) (hx10 : own_I1 x10) (hx11 : own_I1 x11) (hx12 : own_I1 x12) (hx13 : own_I1 x13) (hi : Fi q = -1) (hc1 : (vr f = yv → hg f = own_n r1) ∧ (¬ vr f = yv → f = r1)) (hc2 : (vr g = yv → hg g = own_n r2) ∧ (¬ vr g = yv → g = r2)) (hc3 : (vr gz = yv → hg gz = own_n r3) ∧ (¬ vr gz = yv → gz = r3)) (n1 : ¬ own_n r1 = 1) (n23 : ¬ own_n r2 = own_n r3) (n0' : ¬ own_n r1 = 0) (n10 : ¬ (own_n r2 = 1 ∧ own_n r3 = 0)) (hm : ¬ c1 (own_cs (own_n r1) (own_n r2) (own_n r3)) = own_n r1) (htop : own_min (vr r1) (own_min (vr r2) (vr r3)) = yw) (hr1 : r1 < 1000) (hr2 : r2 < 1000) (hr3 : r3 < 1000) :
    ∃ (T' : State) (h' : Heap) (locs' : List Loc), Stand p l e ({ frames := 3, cells := 7, slots := 103, locals := 48 } : Room) s m args below meth c T' locs' 7 103 ∧ T'.heap = h' ∧ Fr n0 locs' ∧ Keep h0 h' [a0, av, al, ah, au, qa, qb, qc, qd, b0, bf, bg, bh, bv, bi, bl] ∧ own_Dia Z h' a0 av al ah au qa qb qc qd vr lw hg uq c1 c2 c3 c4 sz ∧ own_Frm Z h' b0 bf bg bh bv bi bl (own_up Ff (q + 1) (own_n r1)) (own_up Fg (q + 1) (own_n r2)) (own_up Fh (q + 1) (own_n r3)) (own_up Fv (q + 1) yw) (own_up Fi (q + 1) (-1 : Int32)) (own_up Fl (q + 1) (-1 : Int32)) (q + 1 + 1) ∧ ∀ tz, oS p e below T' (mkF m 45 #[rv a0, s1, s2, s3, s4, rv b0, iv (-1 : Int32), iv (own_n q), iv yv, iv 1, iv (own_n r1), iv (own_n r2), iv (own_n r3), iv (-1 : Int32)] []) tz → oS p e below T0 (mkF m 45 #[rv a0, s1, s2, s3, s4, rv b0, iv (-1 : Int32), x7, x8, x9, x10, x11, x12, x13] []) tz := by
  obtain ⟨T1, X1, e1, st1⟩ := getF X0 hx hZ hown (host := "") (Or.inl (hw _ (own_w 104 rfl))) Via.refl e0 hG.Fs (g := (mkF m 53 #[rv a0, s1, s2, s3, s4, rv b0, iv (-1 : Int32), x7, x8, x9, x10, x11, x12, x13] [(.ref b0)])) rfl rfl (hb hby d9_53)
  obtain ⟨T2, X2, e2, st2⟩ := getF X1 hx hZ hown (host := "") (Or.inl (hw _ (own_w 105 rfl))) Via.refl e1 hG.Fbv (g := (mkF m 62 #[rv a0, s1, s2, s3, s4, rv b0, iv (-1 : Int32), iv (own_n q), x8, x9, x10, x11, x12, x13] [(.ref b0)])) rfl rfl (hb hby d9_62)
  obtain ⟨kc3, cl3, Ar3, qk3, Sz3, Ng3, Hs3, Gs3⟩ := id hG.Abv
  have hin3 : ¬ ((own_n q) < 0 ∨ cl3.slots.size ≤ ((own_n q)).toNatClampNeg) := own_inb (n := 16) (k := q) Sz3 (by decide) (by omega)
  have hat3 : cl3.slots[((own_n q)).toNatClampNeg]? = some (.int yv) := own_at (n := 16) (k := q) (g := Fv) Hs3 Sz3 (by decide) (by omega) hFv
  obtain ⟨T4, X4, e4, st4⟩ := getF X2 hx hZ hown (host := "") (Or.inl (hw _ (own_w 106 rfl))) Via.refl e2 hG.Fbi (g := (mkF m 72 #[rv a0, s1, s2, s3, s4, rv b0, iv (-1 : Int32), iv (own_n q), iv yv, x9, x10, x11, x12, x13] [(.ref b0)])) rfl rfl (hb hby d9_72)
  obtain ⟨kc5, cl5, Ar5, qk5, Sz5, Ng5, Hs5, Gs5⟩ := id hG.Abi
  have hin5 : ¬ ((own_n q) < 0 ∨ cl5.slots.size ≤ ((own_n q)).toNatClampNeg) := own_inb (n := 16) (k := q) Sz5 (by decide) (by omega)
  have hat5 : cl5.slots[((own_n q)).toNatClampNeg]? = some (.int (-1 : Int32)) := own_at (n := 16) (k := q) (g := Fi) Hs5 Sz5 (by decide) (by omega) hi
  obtain ⟨T6, X6, e6, st6⟩ := getF X4 hx hZ hown (host := "") (Or.inl (hw _ (own_w 106 rfl))) Via.refl e4 hG.Fbi (g := (mkF m 96 #[rv a0, s1, s2, s3, s4, rv b0, iv (-1 : Int32), iv (own_n q), iv yv, x9, x10, x11, x12, x13] [(.ref b0)])) rfl rfl (hb hby d9_96)
  obtain ⟨kc7, cl7, Ar7, qk7, Sz7, Ng7, Hs7, Gs7⟩ := id hG.Abi
  have hin7 : ¬ ((own_n q) < 0 ∨ cl7.slots.size ≤ ((own_n q)).toNatClampNeg) := own_inb (n := 16) (k := q) Sz7 (by decide) (by omega)
  have hat7 : cl7.slots[((own_n q)).toNatClampNeg]? = some (.int (-1 : Int32)) := own_at (n := 16) (k := q) (g := Fi) Hs7 Sz7 (by decide) (by omega) hi
  obtain ⟨T8, X8, e8, st8⟩ := getF X6 hx hZ hown (host := "") (Or.inl (hw _ (own_w 107 rfl))) Via.refl e6 hG.Fbf (g := (mkF m 116 #[rv a0, s1, s2, s3, s4, rv b0, iv (-1 : Int32), iv (own_n q), iv yv, iv 1, x10, x11, x12, x13] [(.ref b0), (.ref a0)])) rfl rfl (hb hby d9_116)
  obtain ⟨kc9, cl9, Ar9, qk9, Sz9, Ng9, Hs9, Gs9⟩ := id hG.Abf
  have hin9 : ¬ ((own_n q) < 0 ∨ cl9.slots.size ≤ ((own_n q)).toNatClampNeg) := own_inb (n := 16) (k := q) Sz9 (by decide) (by omega)
  have hat9 : cl9.slots[((own_n q)).toNatClampNeg]? = some (.int (own_n f)) := own_at (n := 16) (k := q) (g := Ff) Hs9 Sz9 (by decide) (by omega) hFf
  obtain ⟨_, T10, Lc10, X10, hQ10, st10⟩ := own_private (W := 0) (y := mN10) X8 hx hZ hown (hw _ (own_w 108 rfl)) (hw _ (own_w 4 rfl)) (hw _ (own_w 110 rfl)) (hw _ (own_w 109 rfl)) (hw _ (own_w 111 rfl)) (hw _ (own_w 5 rfl)) (by decide) (rmCof1 l Z av0 hw [] a0 av al ah au qa qb qc qd vr lw hg uq c1 c2 c3 c4 sz f r1 yv h0 n0 Z0 hD hf hc1) (by decide) (by decide) hD.E (g := (mkF m 126 #[rv a0, s1, s2, s3, s4, rv b0, iv (-1 : Int32), iv (own_n q), iv yv, iv 1, x10, x11, x12, x13] [(.int 1), (.int yv), (.int (own_n f)), (.ref a0)])) rfl (by rw [hml]; rfl) (argsL := [(.int (own_n f)), (.int yv), (.int 1)]) (rest := []) (lenOf pd__IIZ_I rfl) rfl (hb hby d9_126) rfl e8 (by decide : 7 + 0 ≤ _) (by decide : 103 + 0 ≤ _)
  obtain ⟨rfl, N10q, hh10⟩ := hQ10
  have N10 := Fr.app N0 N10q
  have e10 : T10.heap = h0 := hh10
  obtain ⟨T11, X11, e11, st11⟩ := getF X10 hx hZ hown (host := "") (Or.inl (hw _ (own_w 112 rfl))) Via.refl e10 hG.Fbg (g := (mkF m 134 #[rv a0, s1, s2, s3, s4, rv b0, iv (-1 : Int32), iv (own_n q), iv yv, iv 1, iv (own_n r1), x11, x12, x13] [(.ref b0), (.ref a0)])) rfl rfl (hb hby d9_134)
  obtain ⟨kc12, cl12, Ar12, qk12, Sz12, Ng12, Hs12, Gs12⟩ := id hG.Abg
  have hin12 : ¬ ((own_n q) < 0 ∨ cl12.slots.size ≤ ((own_n q)).toNatClampNeg) := own_inb (n := 16) (k := q) Sz12 (by decide) (by omega)
  have hat12 : cl12.slots[((own_n q)).toNatClampNeg]? = some (.int (own_n g)) := own_at (n := 16) (k := q) (g := Fg) Hs12 Sz12 (by decide) (by omega) hFg
  obtain ⟨_, T13, Lc13, X13, hQ13, st13⟩ := own_private (W := 0) (y := mN10) X11 hx hZ hown (hw _ (own_w 108 rfl)) (hw _ (own_w 4 rfl)) (hw _ (own_w 110 rfl)) (hw _ (own_w 109 rfl)) (hw _ (own_w 111 rfl)) (hw _ (own_w 5 rfl)) (by decide) (rmCof1 l Z av0 hw [] a0 av al ah au qa qb qc qd vr lw hg uq c1 c2 c3 c4 sz g r2 yv h0 n0 Z0 hD hg' hc2) (by decide) (by decide) hD.E (g := (mkF m 144 #[rv a0, s1, s2, s3, s4, rv b0, iv (-1 : Int32), iv (own_n q), iv yv, iv 1, iv (own_n r1), x11, x12, x13] [(.int 1), (.int yv), (.int (own_n g)), (.ref a0)])) rfl (by rw [hml]; rfl) (argsL := [(.int (own_n g)), (.int yv), (.int 1)]) (rest := []) (lenOf pd__IIZ_I rfl) rfl (hb hby d9_144) rfl e11 (by decide : 7 + 0 ≤ _) (by decide : 103 + 0 ≤ _)
  obtain ⟨rfl, N13q, hh13⟩ := hQ13
  have N13 := Fr.app N10 N13q
  have e13 : T13.heap = h0 := hh13
  obtain ⟨T14, X14, e14, st14⟩ := getF X13 hx hZ hown (host := "") (Or.inl (hw _ (own_w 113 rfl))) Via.refl e13 hG.Fbh (g := (mkF m 152 #[rv a0, s1, s2, s3, s4, rv b0, iv (-1 : Int32), iv (own_n q), iv yv, iv 1, iv (own_n r1), iv (own_n r2), x12, x13] [(.ref b0), (.ref a0)])) rfl rfl (hb hby d9_152)
  obtain ⟨kc15, cl15, Ar15, qk15, Sz15, Ng15, Hs15, Gs15⟩ := id hG.Abh
  have hin15 : ¬ ((own_n q) < 0 ∨ cl15.slots.size ≤ ((own_n q)).toNatClampNeg) := own_inb (n := 16) (k := q) Sz15 (by decide) (by omega)
  have hat15 : cl15.slots[((own_n q)).toNatClampNeg]? = some (.int (own_n gz)) := own_at (n := 16) (k := q) (g := Fh) Hs15 Sz15 (by decide) (by omega) hFh
  obtain ⟨_, T16, Lc16, X16, hQ16, st16⟩ := own_private (W := 0) (y := mN10) X14 hx hZ hown (hw _ (own_w 108 rfl)) (hw _ (own_w 4 rfl)) (hw _ (own_w 110 rfl)) (hw _ (own_w 109 rfl)) (hw _ (own_w 111 rfl)) (hw _ (own_w 5 rfl)) (by decide) (rmCof1 l Z av0 hw [] a0 av al ah au qa qb qc qd vr lw hg uq c1 c2 c3 c4 sz gz r3 yv h0 n0 Z0 hD hh' hc3) (by decide) (by decide) hD.E (g := (mkF m 162 #[rv a0, s1, s2, s3, s4, rv b0, iv (-1 : Int32), iv (own_n q), iv yv, iv 1, iv (own_n r1), iv (own_n r2), x12, x13] [(.int 1), (.int yv), (.int (own_n gz)), (.ref a0)])) rfl (by rw [hml]; rfl) (argsL := [(.int (own_n gz)), (.int yv), (.int 1)]) (rest := []) (lenOf pd__IIZ_I rfl) rfl (hb hby d9_162) rfl e14 (by decide : 7 + 0 ≤ _) (by decide : 103 + 0 ≤ _)
  obtain ⟨rfl, N16q, hh16⟩ := hQ16
  have N16 := Fr.app N13 N16q
  have e16 : T16.heap = h0 := hh16
  obtain ⟨_, T17, Lc17, X17, hQ17, st17⟩ := own_private (W := 0) (y := mN7) X16 hx hZ hown (hw _ (own_w 62 rfl)) (hw _ (own_w 4 rfl)) (hw _ (own_w 64 rfl)) (hw _ (own_w 63 rfl)) (hw _ (own_w 65 rfl)) (hw _ (own_w 5 rfl)) (by decide) (rmKM l Z av0 hw [] a0 av al ah au qa qb qc qd vr lw hg uq c1 c2 c3 c4 sz (own_n r1) (own_n r2) (own_n r3) h0 n0 Z0 hD n1 n23 n0' n10 hm) (by decide) (by decide) hD.E (g := (mkF m 174 #[rv a0, s1, s2, s3, s4, rv b0, iv (-1 : Int32), iv (own_n q), iv yv, iv 1, iv (own_n r1), iv (own_n r2), iv (own_n r3), x13] [(.int (own_n r3)), (.int (own_n r2)), (.int (own_n r1)), (.ref a0)])) rfl (by rw [hml]; rfl) (argsL := [(.int (own_n r1)), (.int (own_n r2)), (.int (own_n r3))]) (rest := []) (lenOf pd__III_I rfl) rfl (hb hby d9_174) rfl e16 (by decide : 7 + 0 ≤ _) (by decide : 103 + 0 ≤ _)
  obtain ⟨rfl, N17q, hh17⟩ := hQ17
  have N17 := Fr.app N16 N17q
  have e17 : T17.heap = h0 := hh17
  obtain ⟨_, T18, Lc18, X18, hQ18, st18⟩ := own_private (W := 4) (y := mN9) X17 hx hZ hown (hw _ (own_w 89 rfl)) (hw _ (own_w 4 rfl)) (hw _ (own_w 91 rfl)) (hw _ (own_w 90 rfl)) (hw _ (own_w 92 rfl)) (hw _ (own_w 5 rfl)) (by decide) (rmTop l Z av0 hw [] a0 av al ah au qa qb qc qd vr lw hg uq c1 c2 c3 c4 sz r1 r2 r3 h0 n0 Z0 hD hr1 hr2 hr3) (by decide) (by decide) hD.E (g := (mkF m 200 #[rv a0, s1, s2, s3, s4, rv b0, iv (-1 : Int32), iv (own_n q), iv yv, iv 1, iv (own_n r1), iv (own_n r2), iv (own_n r3), iv (-1 : Int32)] [(.int (own_n r3)), (.int (own_n r2)), (.int (own_n r1)), (.ref a0), (.int (own_n r3)), (.int (own_n r2)), (.int (own_n r1)), (.ref b0)])) rfl (by rw [hml]; rfl) (argsL := [(.int (own_n r1)), (.int (own_n r2)), (.int (own_n r3))]) (rest := [(.int (own_n r3)), (.int (own_n r2)), (.int (own_n r1)), (.ref b0)]) (lenOf pd__III_I rfl) rfl (hb hby d9_200) rfl e17 (by decide : 7 + 0 ≤ _) (by decide : 103 + 0 ≤ _)
  obtain ⟨rfl, N18q, hh18⟩ := hQ18
  have N18 := Fr.app N17 N18q
  have e18 : T18.heap = h0 := hh18
  obtain ⟨_, T19, Lc19, X19, hQ19, st19⟩ := own_virtual (W := 0) (y := mN13) (z := mN13) X18 hx hZ hown (hw _ (own_w 97 rfl)) (hw _ (own_w 98 rfl)) (notFace_of_selects (args := #[]) (mvT hZ (hw _ (own_w 100 rfl)))) (hw _ (own_w 100 rfl)) (hw _ (own_w 99 rfl)) (hw _ (own_w 101 rfl)) (hw _ (own_w 72 rfl)) (by decide) (rmPush l Z av0 hw [] b0 bf bg bh bv bi bl Ff Fg Fh Fv Fi Fl (q + 1) (own_n r1) (own_n r2) (own_n r3) yw h0 n0 Z0 hG hSG (by omega)) (by decide) (by decide) hG.E (g := (mkF m 203 #[rv a0, s1, s2, s3, s4, rv b0, iv (-1 : Int32), iv (own_n q), iv yv, iv 1, iv (own_n r1), iv (own_n r2), iv (own_n r3), iv (-1 : Int32)] [(.int yw), (.int (own_n r3)), (.int (own_n r2)), (.int (own_n r1)), (.ref b0)])) rfl (by rw [hml]; rfl) (argsL := [(.int (own_n r1)), (.int (own_n r2)), (.int (own_n r3)), (.int yw)]) (rest := []) (lenOf pd__IIII_V rfl) rfl (hb hby d9_203) rfl e18 (by decide : 7 + 0 ≤ _) (by decide : 103 + 0 ≤ _)
  obtain ⟨rfl, N19q, K19, G19⟩ := hQ19
  have N19 := Fr.app N18 N19q
  have e19 : T19.heap = T19.heap := rfl
  have Zk19 : n0 ≤ T19.heap.size := Nat.le_trans Z0 K19.1
  have Kk19 : Keep h0 T19.heap [a0, av, al, ah, au, qa, qb, qc, qd, b0, bf, bg, bh, bv, bi, bl] := (Keep.refl h0 [a0, av, al, ah, au, qa, qb, qc, qd, b0, bf, bg, bh, bv, bi, bl]).trans K19 (allS (Or.inl (List.mem_of_getElem? (i := 9) rfl)) (allS (Or.inl (List.mem_of_getElem? (i := 10) rfl)) (allS (Or.inl (List.mem_of_getElem? (i := 11) rfl)) (allS (Or.inl (List.mem_of_getElem? (i := 12) rfl)) (allS (Or.inl (List.mem_of_getElem? (i := 13) rfl)) (allS (Or.inl (List.mem_of_getElem? (i := 14) rfl)) (allS (Or.inl (List.mem_of_getElem? (i := 15) rfl)) all0)))))))
  have Dk19 := hD.keep K19 dj
  have S20 : ∀ tz, oS p e below T19 (mkF m 45 #[rv a0, s1, s2, s3, s4, rv b0, iv (-1 : Int32), iv (own_n q), iv yv, iv 1, iv (own_n r1), iv (own_n r2), iv (own_n r3), iv (-1 : Int32)] []) tz → oS p e below T0 (mkF m 45 #[rv a0, s1, s2, s3, s4, rv b0, iv (-1 : Int32), x7, x8, x9, x10, x11, x12, x13] []) tz := fun tz kz => id (by
    show oS p e below T0 (mkF m 45 #[rv a0, s1, s2, s3, s4, rv b0, iv (-1 : Int32), x7, x8, x9, x10, x11, x12, x13] []) _
    refine XS.iload X0.here hx rfl (hb hby d9_45) rfl ?_
    refine XT.iconstV X0.here hx rfl (-1 : Int32) (hb hby d9_47) (by decide) ?_
    refine XS.icmpNo X0.here hx rfl (hb hby d9_48) rfl (XT.ii_ne_f (by decide)) ?_
    refine XS.aload X0.here hx rfl (hb hby d9_51) rfl rfl ?_
    refine st1 _ ?_
    refine XT.iconstV X1.here hx rfl (1 : Int32) (hb hby d9_56) (by decide) ?_
    refine XS.isub X1.here hx rfl (hb hby d9_57) rfl ?_
    show oS p e below T1 (mkF m 58 #[rv a0, s1, s2, s3, s4, rv b0, iv (-1 : Int32), x7, x8, x9, x10, x11, x12, x13] [(.int ((own_n (q + 1)) - (1 : Int32)))]) _
    rw [own_nsub (by omega)]
    show oS p e below T1 (mkF m 58 #[rv a0, s1, s2, s3, s4, rv b0, iv (-1 : Int32), x7, x8, x9, x10, x11, x12, x13] [(.int (own_n q))]) _
    refine XS.istore X1.here hx rfl (hb hby d9_58) rfl (l' := #[rv a0, s1, s2, s3, s4, rv b0, iv (-1 : Int32), iv (own_n q), x8, x9, x10, x11, x12, x13]) (by rcases hx7 with z | ⟨y, z⟩ <;> subst z <;> rfl) ?_
    refine XS.aload X1.here hx rfl (hb hby d9_60) rfl rfl ?_
    show oS p e below T1 (mkF m 62 #[rv a0, s1, s2, s3, s4, rv b0, iv (-1 : Int32), iv (own_n q), x8, x9, x10, x11, x12, x13] [(.ref b0)]) _
    refine st2 _ ?_
    refine XS.iload X2.here hx rfl (hb hby d9_65) rfl ?_
    refine X2.iaload hx (j := (own_n q)) (v := (.int yv)) (by rw [e2]; exact Ar3.1) (State.isArrayOf_alike hZ.alike Ar3.2.1) Ar3.2.2 hin3 hat3 (g := (mkF m 67 #[rv a0, s1, s2, s3, s4, rv b0, iv (-1 : Int32), iv (own_n q), x8, x9, x10, x11, x12, x13] [(.int (own_n q)), (.ref bv)])) rfl rfl (hb hby d9_67) _ ?_
    refine XS.istore X2.here hx rfl (hb hby d9_68) rfl (l' := #[rv a0, s1, s2, s3, s4, rv b0, iv (-1 : Int32), iv (own_n q), iv yv, x9, x10, x11, x12, x13]) (by rcases hx8 with z | ⟨y, z⟩ <;> subst z <;> rfl) ?_
    refine XS.aload X2.here hx rfl (hb hby d9_70) rfl rfl ?_
    refine st4 _ ?_
    refine XS.iload X4.here hx rfl (hb hby d9_75) rfl ?_
    refine X4.iaload hx (j := (own_n q)) (v := (.int (-1 : Int32))) (by rw [e4]; exact Ar5.1) (State.isArrayOf_alike hZ.alike Ar5.2.1) Ar5.2.2 hin5 hat5 (g := (mkF m 77 #[rv a0, s1, s2, s3, s4, rv b0, iv (-1 : Int32), iv (own_n q), iv yv, x9, x10, x11, x12, x13] [(.int (own_n q)), (.ref bi)])) rfl rfl (hb hby d9_77) _ ?_
    refine XT.iconstV X4.here hx rfl (-1 : Int32) (hb hby d9_78) (by decide) ?_
    refine XS.icmpYes X4.here hx rfl (pc0 := 79) (pc' := 94) rfl (hb hby d9_79) rfl (XT.ii_eq_t (by decide)) (by decide) (by decide) ?_
    show oS p e below T4 (mkF m 94 #[rv a0, s1, s2, s3, s4, rv b0, iv (-1 : Int32), iv (own_n q), iv yv, x9, x10, x11, x12, x13] []) _
    refine XS.aload X4.here hx rfl (hb hby d9_94) rfl rfl ?_
    refine st6 _ ?_
    refine XS.iload X6.here hx rfl (hb hby d9_99) rfl ?_
    refine X6.iaload hx (j := (own_n q)) (v := (.int (-1 : Int32))) (by rw [e6]; exact Ar7.1) (State.isArrayOf_alike hZ.alike Ar7.2.1) Ar7.2.2 hin7 hat7 (g := (mkF m 101 #[rv a0, s1, s2, s3, s4, rv b0, iv (-1 : Int32), iv (own_n q), iv yv, x9, x10, x11, x12, x13] [(.int (own_n q)), (.ref bi)])) rfl rfl (hb hby d9_101) _ ?_
    refine XT.iconstV X6.here hx rfl (-1 : Int32) (hb hby d9_102) (by decide) ?_
    refine XS.icmpNo X6.here hx rfl (hb hby d9_103) rfl (XT.ii_ne_f (by decide)) ?_
    refine XT.iconstV X6.here hx rfl (1 : Int32) (hb hby d9_106) (by decide) ?_
    refine XS.goto X6.here hx rfl (pc0 := 107) (pc' := 111) rfl (hb hby d9_107) (by decide) (by decide) ?_
    refine XS.istore X6.here hx rfl (hb hby d9_111) rfl (l' := #[rv a0, s1, s2, s3, s4, rv b0, iv (-1 : Int32), iv (own_n q), iv yv, iv 1, x10, x11, x12, x13]) (by rcases hx9 with z | ⟨y, z⟩ <;> subst z <;> rfl) ?_
    refine XS.aloadN X6.here hx rfl (hb hby d9_113) rfl rfl ?_
    show oS p e below T6 (mkF m 114 #[rv a0, s1, s2, s3, s4, rv b0, iv (-1 : Int32), iv (own_n q), iv yv, iv 1, x10, x11, x12, x13] [(.ref a0)]) _
    refine XS.aload X6.here hx rfl (hb hby d9_114) rfl rfl ?_
    refine st8 _ ?_
    refine XS.iload X8.here hx rfl (hb hby d9_119) rfl ?_
    refine X8.iaload hx (j := (own_n q)) (v := (.int (own_n f))) (by rw [e8]; exact Ar9.1) (State.isArrayOf_alike hZ.alike Ar9.2.1) Ar9.2.2 hin9 hat9 (g := (mkF m 121 #[rv a0, s1, s2, s3, s4, rv b0, iv (-1 : Int32), iv (own_n q), iv yv, iv 1, x10, x11, x12, x13] [(.int (own_n q)), (.ref bf), (.ref a0)])) rfl rfl (hb hby d9_121) _ ?_
    refine XS.iload X8.here hx rfl (hb hby d9_122) rfl ?_
    refine XS.iload X8.here hx rfl (hb hby d9_124) rfl ?_
    refine st10 _ ?_
    refine XS.istore X10.here hx rfl (hb hby d9_129) rfl (l' := #[rv a0, s1, s2, s3, s4, rv b0, iv (-1 : Int32), iv (own_n q), iv yv, iv 1, iv (own_n r1), x11, x12, x13]) (by rcases hx10 with z | ⟨y, z⟩ <;> subst z <;> rfl) ?_
    refine XS.aloadN X10.here hx rfl (hb hby d9_131) rfl rfl ?_
    refine XS.aload X10.here hx rfl (hb hby d9_132) rfl rfl ?_
    show oS p e below T10 (mkF m 134 #[rv a0, s1, s2, s3, s4, rv b0, iv (-1 : Int32), iv (own_n q), iv yv, iv 1, iv (own_n r1), x11, x12, x13] [(.ref b0), (.ref a0)]) _
    refine st11 _ ?_
    refine XS.iload X11.here hx rfl (hb hby d9_137) rfl ?_
    refine X11.iaload hx (j := (own_n q)) (v := (.int (own_n g))) (by rw [e11]; exact Ar12.1) (State.isArrayOf_alike hZ.alike Ar12.2.1) Ar12.2.2 hin12 hat12 (g := (mkF m 139 #[rv a0, s1, s2, s3, s4, rv b0, iv (-1 : Int32), iv (own_n q), iv yv, iv 1, iv (own_n r1), x11, x12, x13] [(.int (own_n q)), (.ref bg), (.ref a0)])) rfl rfl (hb hby d9_139) _ ?_
    refine XS.iload X11.here hx rfl (hb hby d9_140) rfl ?_
    refine XS.iload X11.here hx rfl (hb hby d9_142) rfl ?_
    refine st13 _ ?_
    refine XS.istore X13.here hx rfl (hb hby d9_147) rfl (l' := #[rv a0, s1, s2, s3, s4, rv b0, iv (-1 : Int32), iv (own_n q), iv yv, iv 1, iv (own_n r1), iv (own_n r2), x12, x13]) (by rcases hx11 with z | ⟨y, z⟩ <;> subst z <;> rfl) ?_
    refine XS.aloadN X13.here hx rfl (hb hby d9_149) rfl rfl ?_
    refine XS.aload X13.here hx rfl (hb hby d9_150) rfl rfl ?_
    refine st14 _ ?_
    show oS p e below T14 (mkF m 155 #[rv a0, s1, s2, s3, s4, rv b0, iv (-1 : Int32), iv (own_n q), iv yv, iv 1, iv (own_n r1), iv (own_n r2), x12, x13] [(.ref bh), (.ref a0)]) _
    refine XS.iload X14.here hx rfl (hb hby d9_155) rfl ?_
    refine X14.iaload hx (j := (own_n q)) (v := (.int (own_n gz))) (by rw [e14]; exact Ar15.1) (State.isArrayOf_alike hZ.alike Ar15.2.1) Ar15.2.2 hin15 hat15 (g := (mkF m 157 #[rv a0, s1, s2, s3, s4, rv b0, iv (-1 : Int32), iv (own_n q), iv yv, iv 1, iv (own_n r1), iv (own_n r2), x12, x13] [(.int (own_n q)), (.ref bh), (.ref a0)])) rfl rfl (hb hby d9_157) _ ?_
    refine XS.iload X14.here hx rfl (hb hby d9_158) rfl ?_
    refine XS.iload X14.here hx rfl (hb hby d9_160) rfl ?_
    refine st16 _ ?_
    refine XS.istore X16.here hx rfl (hb hby d9_165) rfl (l' := #[rv a0, s1, s2, s3, s4, rv b0, iv (-1 : Int32), iv (own_n q), iv yv, iv 1, iv (own_n r1), iv (own_n r2), iv (own_n r3), x13]) (by rcases hx12 with z | ⟨y, z⟩ <;> subst z <;> rfl) ?_
    refine XS.aloadN X16.here hx rfl (hb hby d9_167) rfl rfl ?_
    refine XS.iload X16.here hx rfl (hb hby d9_168) rfl ?_
    refine XS.iload X16.here hx rfl (hb hby d9_170) rfl ?_
    refine XS.iload X16.here hx rfl (hb hby d9_172) rfl ?_
    show oS p e below T16 (mkF m 174 #[rv a0, s1, s2, s3, s4, rv b0, iv (-1 : Int32), iv (own_n q), iv yv, iv 1, iv (own_n r1), iv (own_n r2), iv (own_n r3), x13] [(.int (own_n r3)), (.int (own_n r2)), (.int (own_n r1)), (.ref a0)]) _
    refine st17 _ ?_
    refine XS.istore X17.here hx rfl (hb hby d9_177) rfl (l' := #[rv a0, s1, s2, s3, s4, rv b0, iv (-1 : Int32), iv (own_n q), iv yv, iv 1, iv (own_n r1), iv (own_n r2), iv (own_n r3), iv (-1 : Int32)]) (by rcases hx13 with z | ⟨y, z⟩ <;> subst z <;> rfl) ?_
    refine XS.iload X17.here hx rfl (hb hby d9_179) rfl ?_
    refine XT.iconstV X17.here hx rfl (-1 : Int32) (hb hby d9_181) (by decide) ?_
    refine XS.icmpNo X17.here hx rfl (hb hby d9_182) rfl (XT.ii_ne_f (by decide)) ?_
    refine XS.aload X17.here hx rfl (hb hby d9_185) rfl rfl ?_
    refine XS.iload X17.here hx rfl (hb hby d9_187) rfl ?_
    refine XS.iload X17.here hx rfl (hb hby d9_189) rfl ?_
    refine XS.iload X17.here hx rfl (hb hby d9_191) rfl ?_
    refine XS.aloadN X17.here hx rfl (hb hby d9_193) rfl rfl ?_
    show oS p e below T17 (mkF m 194 #[rv a0, s1, s2, s3, s4, rv b0, iv (-1 : Int32), iv (own_n q), iv yv, iv 1, iv (own_n r1), iv (own_n r2), iv (own_n r3), iv (-1 : Int32)] [(.ref a0), (.int (own_n r3)), (.int (own_n r2)), (.int (own_n r1)), (.ref b0)]) _
    refine XS.iload X17.here hx rfl (hb hby d9_194) rfl ?_
    refine XS.iload X17.here hx rfl (hb hby d9_196) rfl ?_
    refine XS.iload X17.here hx rfl (hb hby d9_198) rfl ?_
    refine st18 _ ?_
    show oS p e below T18 (mkF m 203 #[rv a0, s1, s2, s3, s4, rv b0, iv (-1 : Int32), iv (own_n q), iv yv, iv 1, iv (own_n r1), iv (own_n r2), iv (own_n r3), iv (-1 : Int32)] [(.int (own_min (vr r1) (own_min (vr r2) (vr r3)))), (.int (own_n r3)), (.int (own_n r2)), (.int (own_n r1)), (.ref b0)]) _
    rw [htop]
    show oS p e below T18 (mkF m 203 #[rv a0, s1, s2, s3, s4, rv b0, iv (-1 : Int32), iv (own_n q), iv yv, iv 1, iv (own_n r1), iv (own_n r2), iv (own_n r3), iv (-1 : Int32)] [(.int yw), (.int (own_n r3)), (.int (own_n r2)), (.int (own_n r1)), (.ref b0)]) _
    refine st19 _ ?_
    refine XS.goto X19.here hx rfl (pc0 := 206) (pc' := 218) rfl (hb hby d9_206) (by decide) (by decide) ?_
    refine XS.goto X19.here hx rfl (pc0 := 218) (pc' := 315) rfl (hb hby d9_218) (by decide) (by decide) ?_
    refine XS.goto X19.here hx rfl (pc0 := 315) (pc' := 45) rfl (hb hby d9_315) (by decide) (by decide) ?_
    exact kz)
  exact ⟨T19, _, _, X19, e19, N19, Kk19, Dk19, G19, fun tz kz => S20 tz kz⟩
theorem d9_82 : decode prog_72_method_3_code 82 = .ok (.aload 5, 2) := by decide +kernel
theorem d9_84 : decode prog_72_method_3_code 84 = .ok (.getfield 76, 3) := by decide +kernel
theorem d9_87 : decode prog_72_method_3_code 87 = .ok (.iload 7, 2) := by decide +kernel
theorem d9_89 : decode prog_72_method_3_code 89 = .ok (.iaload, 1) := by decide +kernel
theorem d9_90 : decode prog_72_method_3_code 90 = .ok (.iconst (-1), 1) := by decide +kernel
theorem d9_91 : decode prog_72_method_3_code 91 = .ok (.if_icmp .ne 130, 3) := by decide +kernel
theorem d9_110 : decode prog_72_method_3_code 110 = .ok (.iconst 0, 1) := by decide +kernel
set_option maxRecDepth 65536 in
set_option maxHeartbeats 40000000 in
theorem own_H0 {p : Program} {l : Launch} {e : Env} {s : State} {m : MethodId} {args : Array Value} {below : List Frame} {meth : Method} {c : Code} {T0 : State} {locs : List Loc} {Z : State} {av0 : Array Value} {h0 : Heap} {n0 : Nat} (a0 : Addr) (av : Addr) (al : Addr) (ah : Addr) (au : Addr) (qa : Addr) (qb : Addr) (qc : Addr) (qd : Addr) (vr : Nat → Int32) (lw : Nat → Int32) (hg : Nat → Int32) (uq : Nat → Int32) (c1 : Nat → Int32) (c2 : Nat → Int32) (c3 : Nat → Int32) (c4 : Nat → Int32) (sz : Nat) (b0 : Addr) (bf : Addr) (bg : Addr) (bh : Addr) (bv : Addr) (bi : Addr) (bl : Addr) (Ff : Nat → Int32) (Fg : Nat → Int32) (Fh : Nat → Int32) (Fv : Nat → Int32) (Fi : Nat → Int32) (Fl : Nat → Int32) (q : Nat) (f : Nat) (g : Nat) (gz : Nat) (yv : Int32) (s1 : Slot) (s2 : Slot) (s3 : Slot) (s4 : Slot) (x7 : Slot) (x8 : Slot) (x9 : Slot) (x10 : Slot) (x11 : Slot) (x12 : Slot) (x13 : Slot) (r1 : Nat) (r2 : Nat) (r3 : Nat) (rr : Nat) (X0 : Stand p l e ({ frames := 3, cells := 7, slots := 103, locals := 48 } : Room) s m args below meth c T0 locs 7 103) (hx : p.tables.exec = Jvm.exec) (hZ : Z.Warmed39 s.vm) (hw : ∀ d ∈ tables_1, d.before av0 Z = true) (hby : c.code = prog_72_method_3_code) (hml : c.maxLocals = 14) (hown : s.vm.findClass mN15.cls = some m.cls) (e0 : T0.heap = h0) (N0 : Fr n0 locs) (Z0 : n0 ≤ h0.size) (hD : own_Dia Z h0 a0 av al ah au qa qb qc qd vr lw hg uq c1 c2 c3 c4 sz) (hG : own_Frm Z h0 b0 bf bg bh bv bi bl Ff Fg Fh Fv Fi Fl (q + 1)) (hS : own_Sep n0 [a0, av, al, ah, au, qa, qb, qc, qd]) (hSG : own_Sep n0 [b0, bf, bg, bh, bv, bi, bl]) (dj : ∀ y ∈ [a0, av, al, ah, au, qa, qb, qc, qd], y ∉ [b0, bf, bg, bh, bv, bi, bl]) (hq : q < 14) (hFf : Ff q = own_n f) (hFg : Fg q = own_n g) (hFh : Fh q = own_n gz) (hFv : Fv q = yv) (hf : f < 1000) (hg' : g < 1000) (hh' : gz < 1000) (hx7 : own_I1 x7) (hx8 : own_I1 x8) (hx9 : own_I1 x9) (hx10 : own_I1 x10) (hx11 : own_I1 x11) (hx12 : own_I1 x12) (hx13 : own_I1 x13) (hi : ¬ Fi q = -1) (lo : Fl q = -1) (hc1 : (vr f = yv → lw f = own_n r1) ∧ (¬ vr f = yv → f = r1)) (hc2 : (vr g = yv → lw g = own_n r2) ∧ (¬ vr g = yv → g = r2)) (hc3 : (vr gz = yv → lw gz = own_n r3) ∧ (¬ vr gz = yv → gz = r3)) (hKP : own_KP (own_n r1) (own_n r2) (own_n r3) (own_n rr)) (hrr : rr < 1000) :
    ∃ (T' : State) (h' : Heap) (locs' : List Loc), Stand p l e ({ frames := 3, cells := 7, slots := 103, locals := 48 } : Room) s m args below meth c T' locs' 7 103 ∧ T'.heap = h' ∧ Fr n0 locs' ∧ Keep h0 h' [a0, av, al, ah, au, qa, qb, qc, qd, b0, bf, bg, bh, bv, bi, bl] ∧ own_Dia Z h' a0 av al ah au qa qb qc qd vr lw hg uq c1 c2 c3 c4 sz ∧ own_Frm Z h' b0 bf bg bh bv bi bl Ff Fg Fh Fv Fi (own_up Fl q (own_n rr)) (q + 1) ∧ ∀ tz, oS p e below T' (mkF m 45 #[rv a0, s1, s2, s3, s4, rv b0, iv (-1 : Int32), iv (own_n q), iv yv, iv 0, iv (own_n r1), iv (own_n r2), iv (own_n r3), iv (own_n rr)] []) tz → oS p e below T0 (mkF m 45 #[rv a0, s1, s2, s3, s4, rv b0, iv (-1 : Int32), x7, x8, x9, x10, x11, x12, x13] []) tz := by
  obtain ⟨T1, X1, e1, st1⟩ := getF X0 hx hZ hown (host := "") (Or.inl (hw _ (own_w 104 rfl))) Via.refl e0 hG.Fs (g := (mkF m 53 #[rv a0, s1, s2, s3, s4, rv b0, iv (-1 : Int32), x7, x8, x9, x10, x11, x12, x13] [(.ref b0)])) rfl rfl (hb hby d9_53)
  obtain ⟨T2, X2, e2, st2⟩ := getF X1 hx hZ hown (host := "") (Or.inl (hw _ (own_w 105 rfl))) Via.refl e1 hG.Fbv (g := (mkF m 62 #[rv a0, s1, s2, s3, s4, rv b0, iv (-1 : Int32), iv (own_n q), x8, x9, x10, x11, x12, x13] [(.ref b0)])) rfl rfl (hb hby d9_62)
  obtain ⟨kc3, cl3, Ar3, qk3, Sz3, Ng3, Hs3, Gs3⟩ := id hG.Abv
  have hin3 : ¬ ((own_n q) < 0 ∨ cl3.slots.size ≤ ((own_n q)).toNatClampNeg) := own_inb (n := 16) (k := q) Sz3 (by decide) (by omega)
  have hat3 : cl3.slots[((own_n q)).toNatClampNeg]? = some (.int yv) := own_at (n := 16) (k := q) (g := Fv) Hs3 Sz3 (by decide) (by omega) hFv
  obtain ⟨T4, X4, e4, st4⟩ := getF X2 hx hZ hown (host := "") (Or.inl (hw _ (own_w 106 rfl))) Via.refl e2 hG.Fbi (g := (mkF m 72 #[rv a0, s1, s2, s3, s4, rv b0, iv (-1 : Int32), iv (own_n q), iv yv, x9, x10, x11, x12, x13] [(.ref b0)])) rfl rfl (hb hby d9_72)
  obtain ⟨kc5, cl5, Ar5, qk5, Sz5, Ng5, Hs5, Gs5⟩ := id hG.Abi
  have hin5 : ¬ ((own_n q) < 0 ∨ cl5.slots.size ≤ ((own_n q)).toNatClampNeg) := own_inb (n := 16) (k := q) Sz5 (by decide) (by omega)
  have hat5 : cl5.slots[((own_n q)).toNatClampNeg]? = some (.int (Fi q)) := own_at (n := 16) (k := q) (g := Fi) Hs5 Sz5 (by decide) (by omega) rfl
  obtain ⟨T6, X6, e6, st6⟩ := getF X4 hx hZ hown (host := "") (Or.inl (hw _ (own_w 119 rfl))) Via.refl e4 hG.Fbl (g := (mkF m 84 #[rv a0, s1, s2, s3, s4, rv b0, iv (-1 : Int32), iv (own_n q), iv yv, x9, x10, x11, x12, x13] [(.ref b0)])) rfl rfl (hb hby d9_84)
  obtain ⟨kc7, cl7, Ar7, qk7, Sz7, Ng7, Hs7, Gs7⟩ := id hG.Abl
  have hin7 : ¬ ((own_n q) < 0 ∨ cl7.slots.size ≤ ((own_n q)).toNatClampNeg) := own_inb (n := 16) (k := q) Sz7 (by decide) (by omega)
  have hat7 : cl7.slots[((own_n q)).toNatClampNeg]? = some (.int (-1 : Int32)) := own_at (n := 16) (k := q) (g := Fl) Hs7 Sz7 (by decide) (by omega) lo
  obtain ⟨T8, X8, e8, st8⟩ := getF X6 hx hZ hown (host := "") (Or.inl (hw _ (own_w 106 rfl))) Via.refl e6 hG.Fbi (g := (mkF m 96 #[rv a0, s1, s2, s3, s4, rv b0, iv (-1 : Int32), iv (own_n q), iv yv, x9, x10, x11, x12, x13] [(.ref b0)])) rfl rfl (hb hby d9_96)
  obtain ⟨kc9, cl9, Ar9, qk9, Sz9, Ng9, Hs9, Gs9⟩ := id hG.Abi
  have hin9 : ¬ ((own_n q) < 0 ∨ cl9.slots.size ≤ ((own_n q)).toNatClampNeg) := own_inb (n := 16) (k := q) Sz9 (by decide) (by omega)
  have hat9 : cl9.slots[((own_n q)).toNatClampNeg]? = some (.int (Fi q)) := own_at (n := 16) (k := q) (g := Fi) Hs9 Sz9 (by decide) (by omega) rfl
  obtain ⟨T10, X10, e10, st10⟩ := getF X8 hx hZ hown (host := "") (Or.inl (hw _ (own_w 107 rfl))) Via.refl e8 hG.Fbf (g := (mkF m 116 #[rv a0, s1, s2, s3, s4, rv b0, iv (-1 : Int32), iv (own_n q), iv yv, iv 0, x10, x11, x12, x13] [(.ref b0), (.ref a0)])) rfl rfl (hb hby d9_116)
  obtain ⟨kc11, cl11, Ar11, qk11, Sz11, Ng11, Hs11, Gs11⟩ := id hG.Abf
  have hin11 : ¬ ((own_n q) < 0 ∨ cl11.slots.size ≤ ((own_n q)).toNatClampNeg) := own_inb (n := 16) (k := q) Sz11 (by decide) (by omega)
  have hat11 : cl11.slots[((own_n q)).toNatClampNeg]? = some (.int (own_n f)) := own_at (n := 16) (k := q) (g := Ff) Hs11 Sz11 (by decide) (by omega) hFf
  obtain ⟨_, T12, Lc12, X12, hQ12, st12⟩ := own_private (W := 0) (y := mN10) X10 hx hZ hown (hw _ (own_w 108 rfl)) (hw _ (own_w 4 rfl)) (hw _ (own_w 110 rfl)) (hw _ (own_w 109 rfl)) (hw _ (own_w 111 rfl)) (hw _ (own_w 5 rfl)) (by decide) (rmCof0 l Z av0 hw [] a0 av al ah au qa qb qc qd vr lw hg uq c1 c2 c3 c4 sz f r1 yv h0 n0 Z0 hD hf hc1) (by decide) (by decide) hD.E (g := (mkF m 126 #[rv a0, s1, s2, s3, s4, rv b0, iv (-1 : Int32), iv (own_n q), iv yv, iv 0, x10, x11, x12, x13] [(.int 0), (.int yv), (.int (own_n f)), (.ref a0)])) rfl (by rw [hml]; rfl) (argsL := [(.int (own_n f)), (.int yv), (.int 0)]) (rest := []) (lenOf pd__IIZ_I rfl) rfl (hb hby d9_126) rfl e10 (by decide : 7 + 0 ≤ _) (by decide : 103 + 0 ≤ _)
  obtain ⟨rfl, N12q, hh12⟩ := hQ12
  have N12 := Fr.app N0 N12q
  have e12 : T12.heap = h0 := hh12
  obtain ⟨T13, X13, e13, st13⟩ := getF X12 hx hZ hown (host := "") (Or.inl (hw _ (own_w 112 rfl))) Via.refl e12 hG.Fbg (g := (mkF m 134 #[rv a0, s1, s2, s3, s4, rv b0, iv (-1 : Int32), iv (own_n q), iv yv, iv 0, iv (own_n r1), x11, x12, x13] [(.ref b0), (.ref a0)])) rfl rfl (hb hby d9_134)
  obtain ⟨kc14, cl14, Ar14, qk14, Sz14, Ng14, Hs14, Gs14⟩ := id hG.Abg
  have hin14 : ¬ ((own_n q) < 0 ∨ cl14.slots.size ≤ ((own_n q)).toNatClampNeg) := own_inb (n := 16) (k := q) Sz14 (by decide) (by omega)
  have hat14 : cl14.slots[((own_n q)).toNatClampNeg]? = some (.int (own_n g)) := own_at (n := 16) (k := q) (g := Fg) Hs14 Sz14 (by decide) (by omega) hFg
  obtain ⟨_, T15, Lc15, X15, hQ15, st15⟩ := own_private (W := 0) (y := mN10) X13 hx hZ hown (hw _ (own_w 108 rfl)) (hw _ (own_w 4 rfl)) (hw _ (own_w 110 rfl)) (hw _ (own_w 109 rfl)) (hw _ (own_w 111 rfl)) (hw _ (own_w 5 rfl)) (by decide) (rmCof0 l Z av0 hw [] a0 av al ah au qa qb qc qd vr lw hg uq c1 c2 c3 c4 sz g r2 yv h0 n0 Z0 hD hg' hc2) (by decide) (by decide) hD.E (g := (mkF m 144 #[rv a0, s1, s2, s3, s4, rv b0, iv (-1 : Int32), iv (own_n q), iv yv, iv 0, iv (own_n r1), x11, x12, x13] [(.int 0), (.int yv), (.int (own_n g)), (.ref a0)])) rfl (by rw [hml]; rfl) (argsL := [(.int (own_n g)), (.int yv), (.int 0)]) (rest := []) (lenOf pd__IIZ_I rfl) rfl (hb hby d9_144) rfl e13 (by decide : 7 + 0 ≤ _) (by decide : 103 + 0 ≤ _)
  obtain ⟨rfl, N15q, hh15⟩ := hQ15
  have N15 := Fr.app N12 N15q
  have e15 : T15.heap = h0 := hh15
  obtain ⟨T16, X16, e16, st16⟩ := getF X15 hx hZ hown (host := "") (Or.inl (hw _ (own_w 113 rfl))) Via.refl e15 hG.Fbh (g := (mkF m 152 #[rv a0, s1, s2, s3, s4, rv b0, iv (-1 : Int32), iv (own_n q), iv yv, iv 0, iv (own_n r1), iv (own_n r2), x12, x13] [(.ref b0), (.ref a0)])) rfl rfl (hb hby d9_152)
  obtain ⟨kc17, cl17, Ar17, qk17, Sz17, Ng17, Hs17, Gs17⟩ := id hG.Abh
  have hin17 : ¬ ((own_n q) < 0 ∨ cl17.slots.size ≤ ((own_n q)).toNatClampNeg) := own_inb (n := 16) (k := q) Sz17 (by decide) (by omega)
  have hat17 : cl17.slots[((own_n q)).toNatClampNeg]? = some (.int (own_n gz)) := own_at (n := 16) (k := q) (g := Fh) Hs17 Sz17 (by decide) (by omega) hFh
  obtain ⟨_, T18, Lc18, X18, hQ18, st18⟩ := own_private (W := 0) (y := mN10) X16 hx hZ hown (hw _ (own_w 108 rfl)) (hw _ (own_w 4 rfl)) (hw _ (own_w 110 rfl)) (hw _ (own_w 109 rfl)) (hw _ (own_w 111 rfl)) (hw _ (own_w 5 rfl)) (by decide) (rmCof0 l Z av0 hw [] a0 av al ah au qa qb qc qd vr lw hg uq c1 c2 c3 c4 sz gz r3 yv h0 n0 Z0 hD hh' hc3) (by decide) (by decide) hD.E (g := (mkF m 162 #[rv a0, s1, s2, s3, s4, rv b0, iv (-1 : Int32), iv (own_n q), iv yv, iv 0, iv (own_n r1), iv (own_n r2), x12, x13] [(.int 0), (.int yv), (.int (own_n gz)), (.ref a0)])) rfl (by rw [hml]; rfl) (argsL := [(.int (own_n gz)), (.int yv), (.int 0)]) (rest := []) (lenOf pd__IIZ_I rfl) rfl (hb hby d9_162) rfl e16 (by decide : 7 + 0 ≤ _) (by decide : 103 + 0 ≤ _)
  obtain ⟨rfl, N18q, hh18⟩ := hQ18
  have N18 := Fr.app N15 N18q
  have e18 : T18.heap = h0 := hh18
  obtain ⟨_, T19, Lc19, X19, hQ19, st19⟩ := own_private (W := 0) (y := mN7) X18 hx hZ hown (hw _ (own_w 62 rfl)) (hw _ (own_w 4 rfl)) (hw _ (own_w 64 rfl)) (hw _ (own_w 63 rfl)) (hw _ (own_w 65 rfl)) (hw _ (own_w 5 rfl)) (by decide) (rmKP l Z av0 hw [] a0 (own_n r1) (own_n r2) (own_n r3) (own_n rr) h0 n0 Z0 hKP) (by decide) (by decide) hD.E (g := (mkF m 174 #[rv a0, s1, s2, s3, s4, rv b0, iv (-1 : Int32), iv (own_n q), iv yv, iv 0, iv (own_n r1), iv (own_n r2), iv (own_n r3), x13] [(.int (own_n r3)), (.int (own_n r2)), (.int (own_n r1)), (.ref a0)])) rfl (by rw [hml]; rfl) (argsL := [(.int (own_n r1)), (.int (own_n r2)), (.int (own_n r3))]) (rest := []) (lenOf pd__III_I rfl) rfl (hb hby d9_174) rfl e18 (by decide : 7 + 0 ≤ _) (by decide : 103 + 0 ≤ _)
  obtain ⟨rfl, N19q, hh19⟩ := hQ19
  have N19 := Fr.app N18 N19q
  have e19 : T19.heap = h0 := hh19
  obtain ⟨_, T20, Lc20, X20, hQ20, st20⟩ := own_virtual (W := 0) (y := mN14) (z := mN14) X19 hx hZ hown (hw _ (own_w 114 rfl)) (hw _ (own_w 115 rfl)) (notFace_of_selects (args := #[]) (mvT hZ (hw _ (own_w 117 rfl)))) (hw _ (own_w 117 rfl)) (hw _ (own_w 116 rfl)) (hw _ (own_w 118 rfl)) (hw _ (own_w 72 rfl)) (by decide) (rmSetL l Z av0 hw [] b0 bf bg bh bv bi bl Ff Fg Fh Fv Fi Fl (q + 1) q (own_n rr) h0 n0 Z0 hG hSG (by omega) hi) (by decide) (by decide) hG.E (g := (mkF m 215 #[rv a0, s1, s2, s3, s4, rv b0, iv (-1 : Int32), iv (own_n q), iv yv, iv 0, iv (own_n r1), iv (own_n r2), iv (own_n r3), iv (own_n rr)] [(.int (own_n rr)), (.int (own_n q)), (.ref b0)])) rfl (by rw [hml]; rfl) (argsL := [(.int (own_n q)), (.int (own_n rr))]) (rest := []) (lenOf pd__II_V rfl) rfl (hb hby d9_215) rfl e19 (by decide : 7 + 0 ≤ _) (by decide : 103 + 0 ≤ _)
  obtain ⟨rfl, N20q, K20, G20⟩ := hQ20
  have N20 := Fr.app N19 N20q
  have e20 : T20.heap = T20.heap := rfl
  have Zk20 : n0 ≤ T20.heap.size := Nat.le_trans Z0 K20.1
  have Kk20 : Keep h0 T20.heap [a0, av, al, ah, au, qa, qb, qc, qd, b0, bf, bg, bh, bv, bi, bl] := (Keep.refl h0 [a0, av, al, ah, au, qa, qb, qc, qd, b0, bf, bg, bh, bv, bi, bl]).trans K20 (allS (Or.inl (List.mem_of_getElem? (i := 9) rfl)) (allS (Or.inl (List.mem_of_getElem? (i := 10) rfl)) (allS (Or.inl (List.mem_of_getElem? (i := 11) rfl)) (allS (Or.inl (List.mem_of_getElem? (i := 12) rfl)) (allS (Or.inl (List.mem_of_getElem? (i := 13) rfl)) (allS (Or.inl (List.mem_of_getElem? (i := 14) rfl)) (allS (Or.inl (List.mem_of_getElem? (i := 15) rfl)) all0)))))))
  have Dk20 := hD.keep K20 dj
  have S21 : ∀ tz, oS p e below T20 (mkF m 45 #[rv a0, s1, s2, s3, s4, rv b0, iv (-1 : Int32), iv (own_n q), iv yv, iv 0, iv (own_n r1), iv (own_n r2), iv (own_n r3), iv (own_n rr)] []) tz → oS p e below T0 (mkF m 45 #[rv a0, s1, s2, s3, s4, rv b0, iv (-1 : Int32), x7, x8, x9, x10, x11, x12, x13] []) tz := fun tz kz => id (by
    show oS p e below T0 (mkF m 45 #[rv a0, s1, s2, s3, s4, rv b0, iv (-1 : Int32), x7, x8, x9, x10, x11, x12, x13] []) _
    refine XS.iload X0.here hx rfl (hb hby d9_45) rfl ?_
    refine XT.iconstV X0.here hx rfl (-1 : Int32) (hb hby d9_47) (by decide) ?_
    refine XS.icmpNo X0.here hx rfl (hb hby d9_48) rfl (XT.ii_ne_f (by decide)) ?_
    refine XS.aload X0.here hx rfl (hb hby d9_51) rfl rfl ?_
    refine st1 _ ?_
    refine XT.iconstV X1.here hx rfl (1 : Int32) (hb hby d9_56) (by decide) ?_
    refine XS.isub X1.here hx rfl (hb hby d9_57) rfl ?_
    show oS p e below T1 (mkF m 58 #[rv a0, s1, s2, s3, s4, rv b0, iv (-1 : Int32), x7, x8, x9, x10, x11, x12, x13] [(.int ((own_n (q + 1)) - (1 : Int32)))]) _
    rw [own_nsub (by omega)]
    show oS p e below T1 (mkF m 58 #[rv a0, s1, s2, s3, s4, rv b0, iv (-1 : Int32), x7, x8, x9, x10, x11, x12, x13] [(.int (own_n q))]) _
    refine XS.istore X1.here hx rfl (hb hby d9_58) rfl (l' := #[rv a0, s1, s2, s3, s4, rv b0, iv (-1 : Int32), iv (own_n q), x8, x9, x10, x11, x12, x13]) (by rcases hx7 with z | ⟨y, z⟩ <;> subst z <;> rfl) ?_
    refine XS.aload X1.here hx rfl (hb hby d9_60) rfl rfl ?_
    show oS p e below T1 (mkF m 62 #[rv a0, s1, s2, s3, s4, rv b0, iv (-1 : Int32), iv (own_n q), x8, x9, x10, x11, x12, x13] [(.ref b0)]) _
    refine st2 _ ?_
    refine XS.iload X2.here hx rfl (hb hby d9_65) rfl ?_
    refine X2.iaload hx (j := (own_n q)) (v := (.int yv)) (by rw [e2]; exact Ar3.1) (State.isArrayOf_alike hZ.alike Ar3.2.1) Ar3.2.2 hin3 hat3 (g := (mkF m 67 #[rv a0, s1, s2, s3, s4, rv b0, iv (-1 : Int32), iv (own_n q), x8, x9, x10, x11, x12, x13] [(.int (own_n q)), (.ref bv)])) rfl rfl (hb hby d9_67) _ ?_
    refine XS.istore X2.here hx rfl (hb hby d9_68) rfl (l' := #[rv a0, s1, s2, s3, s4, rv b0, iv (-1 : Int32), iv (own_n q), iv yv, x9, x10, x11, x12, x13]) (by rcases hx8 with z | ⟨y, z⟩ <;> subst z <;> rfl) ?_
    refine XS.aload X2.here hx rfl (hb hby d9_70) rfl rfl ?_
    refine st4 _ ?_
    refine XS.iload X4.here hx rfl (hb hby d9_75) rfl ?_
    refine X4.iaload hx (j := (own_n q)) (v := (.int (Fi q))) (by rw [e4]; exact Ar5.1) (State.isArrayOf_alike hZ.alike Ar5.2.1) Ar5.2.2 hin5 hat5 (g := (mkF m 77 #[rv a0, s1, s2, s3, s4, rv b0, iv (-1 : Int32), iv (own_n q), iv yv, x9, x10, x11, x12, x13] [(.int (own_n q)), (.ref bi)])) rfl rfl (hb hby d9_77) _ ?_
    refine XT.iconstV X4.here hx rfl (-1 : Int32) (hb hby d9_78) (by decide) ?_
    refine XS.icmpNo X4.here hx rfl (hb hby d9_79) rfl (XT.ii_eq_f hi) ?_
    show oS p e below T4 (mkF m 82 #[rv a0, s1, s2, s3, s4, rv b0, iv (-1 : Int32), iv (own_n q), iv yv, x9, x10, x11, x12, x13] []) _
    refine XS.aload X4.here hx rfl (hb hby d9_82) rfl rfl ?_
    refine st6 _ ?_
    refine XS.iload X6.here hx rfl (hb hby d9_87) rfl ?_
    refine X6.iaload hx (j := (own_n q)) (v := (.int (-1 : Int32))) (by rw [e6]; exact Ar7.1) (State.isArrayOf_alike hZ.alike Ar7.2.1) Ar7.2.2 hin7 hat7 (g := (mkF m 89 #[rv a0, s1, s2, s3, s4, rv b0, iv (-1 : Int32), iv (own_n q), iv yv, x9, x10, x11, x12, x13] [(.int (own_n q)), (.ref bl)])) rfl rfl (hb hby d9_89) _ ?_
    refine XT.iconstV X6.here hx rfl (-1 : Int32) (hb hby d9_90) (by decide) ?_
    refine XS.icmpNo X6.here hx rfl (hb hby d9_91) rfl (XT.ii_ne_f (by decide)) ?_
    refine XS.aload X6.here hx rfl (hb hby d9_94) rfl rfl ?_
    refine st8 _ ?_
    refine XS.iload X8.here hx rfl (hb hby d9_99) rfl ?_
    refine X8.iaload hx (j := (own_n q)) (v := (.int (Fi q))) (by rw [e8]; exact Ar9.1) (State.isArrayOf_alike hZ.alike Ar9.2.1) Ar9.2.2 hin9 hat9 (g := (mkF m 101 #[rv a0, s1, s2, s3, s4, rv b0, iv (-1 : Int32), iv (own_n q), iv yv, x9, x10, x11, x12, x13] [(.int (own_n q)), (.ref bi)])) rfl rfl (hb hby d9_101) _ ?_
    show oS p e below T8 (mkF m 102 #[rv a0, s1, s2, s3, s4, rv b0, iv (-1 : Int32), iv (own_n q), iv yv, x9, x10, x11, x12, x13] [(.int (Fi q))]) _
    refine XT.iconstV X8.here hx rfl (-1 : Int32) (hb hby d9_102) (by decide) ?_
    refine XS.icmpYes X8.here hx rfl (pc0 := 103) (pc' := 110) rfl (hb hby d9_103) rfl (XT.ii_ne_t hi) (by decide) (by decide) ?_
    refine XT.iconstV X8.here hx rfl (0 : Int32) (hb hby d9_110) (by decide) ?_
    refine XS.istore X8.here hx rfl (hb hby d9_111) rfl (l' := #[rv a0, s1, s2, s3, s4, rv b0, iv (-1 : Int32), iv (own_n q), iv yv, iv 0, x10, x11, x12, x13]) (by rcases hx9 with z | ⟨y, z⟩ <;> subst z <;> rfl) ?_
    refine XS.aloadN X8.here hx rfl (hb hby d9_113) rfl rfl ?_
    refine XS.aload X8.here hx rfl (hb hby d9_114) rfl rfl ?_
    refine st10 _ ?_
    refine XS.iload X10.here hx rfl (hb hby d9_119) rfl ?_
    refine X10.iaload hx (j := (own_n q)) (v := (.int (own_n f))) (by rw [e10]; exact Ar11.1) (State.isArrayOf_alike hZ.alike Ar11.2.1) Ar11.2.2 hin11 hat11 (g := (mkF m 121 #[rv a0, s1, s2, s3, s4, rv b0, iv (-1 : Int32), iv (own_n q), iv yv, iv 0, x10, x11, x12, x13] [(.int (own_n q)), (.ref bf), (.ref a0)])) rfl rfl (hb hby d9_121) _ ?_
    refine XS.iload X10.here hx rfl (hb hby d9_122) rfl ?_
    show oS p e below T10 (mkF m 124 #[rv a0, s1, s2, s3, s4, rv b0, iv (-1 : Int32), iv (own_n q), iv yv, iv 0, x10, x11, x12, x13] [(.int yv), (.int (own_n f)), (.ref a0)]) _
    refine XS.iload X10.here hx rfl (hb hby d9_124) rfl ?_
    refine st12 _ ?_
    refine XS.istore X12.here hx rfl (hb hby d9_129) rfl (l' := #[rv a0, s1, s2, s3, s4, rv b0, iv (-1 : Int32), iv (own_n q), iv yv, iv 0, iv (own_n r1), x11, x12, x13]) (by rcases hx10 with z | ⟨y, z⟩ <;> subst z <;> rfl) ?_
    refine XS.aloadN X12.here hx rfl (hb hby d9_131) rfl rfl ?_
    refine XS.aload X12.here hx rfl (hb hby d9_132) rfl rfl ?_
    refine st13 _ ?_
    refine XS.iload X13.here hx rfl (hb hby d9_137) rfl ?_
    refine X13.iaload hx (j := (own_n q)) (v := (.int (own_n g))) (by rw [e13]; exact Ar14.1) (State.isArrayOf_alike hZ.alike Ar14.2.1) Ar14.2.2 hin14 hat14 (g := (mkF m 139 #[rv a0, s1, s2, s3, s4, rv b0, iv (-1 : Int32), iv (own_n q), iv yv, iv 0, iv (own_n r1), x11, x12, x13] [(.int (own_n q)), (.ref bg), (.ref a0)])) rfl rfl (hb hby d9_139) _ ?_
    refine XS.iload X13.here hx rfl (hb hby d9_140) rfl ?_
    refine XS.iload X13.here hx rfl (hb hby d9_142) rfl ?_
    show oS p e below T13 (mkF m 144 #[rv a0, s1, s2, s3, s4, rv b0, iv (-1 : Int32), iv (own_n q), iv yv, iv 0, iv (own_n r1), x11, x12, x13] [(.int 0), (.int yv), (.int (own_n g)), (.ref a0)]) _
    refine st15 _ ?_
    refine XS.istore X15.here hx rfl (hb hby d9_147) rfl (l' := #[rv a0, s1, s2, s3, s4, rv b0, iv (-1 : Int32), iv (own_n q), iv yv, iv 0, iv (own_n r1), iv (own_n r2), x12, x13]) (by rcases hx11 with z | ⟨y, z⟩ <;> subst z <;> rfl) ?_
    refine XS.aloadN X15.here hx rfl (hb hby d9_149) rfl rfl ?_
    refine XS.aload X15.here hx rfl (hb hby d9_150) rfl rfl ?_
    refine st16 _ ?_
    refine XS.iload X16.here hx rfl (hb hby d9_155) rfl ?_
    refine X16.iaload hx (j := (own_n q)) (v := (.int (own_n gz))) (by rw [e16]; exact Ar17.1) (State.isArrayOf_alike hZ.alike Ar17.2.1) Ar17.2.2 hin17 hat17 (g := (mkF m 157 #[rv a0, s1, s2, s3, s4, rv b0, iv (-1 : Int32), iv (own_n q), iv yv, iv 0, iv (own_n r1), iv (own_n r2), x12, x13] [(.int (own_n q)), (.ref bh), (.ref a0)])) rfl rfl (hb hby d9_157) _ ?_
    refine XS.iload X16.here hx rfl (hb hby d9_158) rfl ?_
    refine XS.iload X16.here hx rfl (hb hby d9_160) rfl ?_
    refine st18 _ ?_
    show oS p e below T18 (mkF m 165 #[rv a0, s1, s2, s3, s4, rv b0, iv (-1 : Int32), iv (own_n q), iv yv, iv 0, iv (own_n r1), iv (own_n r2), x12, x13] [(.int (own_n r3))]) _
    refine XS.istore X18.here hx rfl (hb hby d9_165) rfl (l' := #[rv a0, s1, s2, s3, s4, rv b0, iv (-1 : Int32), iv (own_n q), iv yv, iv 0, iv (own_n r1), iv (own_n r2), iv (own_n r3), x13]) (by rcases hx12 with z | ⟨y, z⟩ <;> subst z <;> rfl) ?_
    refine XS.aloadN X18.here hx rfl (hb hby d9_167) rfl rfl ?_
    refine XS.iload X18.here hx rfl (hb hby d9_168) rfl ?_
    refine XS.iload X18.here hx rfl (hb hby d9_170) rfl ?_
    refine XS.iload X18.here hx rfl (hb hby d9_172) rfl ?_
    refine st19 _ ?_
    refine XS.istore X19.here hx rfl (hb hby d9_177) rfl (l' := #[rv a0, s1, s2, s3, s4, rv b0, iv (-1 : Int32), iv (own_n q), iv yv, iv 0, iv (own_n r1), iv (own_n r2), iv (own_n r3), iv (own_n rr)]) (by rcases hx13 with z | ⟨y, z⟩ <;> subst z <;> rfl) ?_
    refine XS.iload X19.here hx rfl (hb hby d9_179) rfl ?_
    refine XT.iconstV X19.here hx rfl (-1 : Int32) (hb hby d9_181) (by decide) ?_
    refine XS.icmpYes X19.here hx rfl (pc0 := 182) (pc' := 209) rfl (hb hby d9_182) rfl (XT.ii_ne_t (own_nm (by omega))) (by decide) (by decide) ?_
    show oS p e below T19 (mkF m 209 #[rv a0, s1, s2, s3, s4, rv b0, iv (-1 : Int32), iv (own_n q), iv yv, iv 0, iv (own_n r1), iv (own_n r2), iv (own_n r3), iv (own_n rr)] []) _
    refine XS.aload X19.here hx rfl (hb hby d9_209) rfl rfl ?_
    refine XS.iload X19.here hx rfl (hb hby d9_211) rfl ?_
    refine XS.iload X19.here hx rfl (hb hby d9_213) rfl ?_
    refine st20 _ ?_
    refine XS.goto X20.here hx rfl (pc0 := 218) (pc' := 315) rfl (hb hby d9_218) (by decide) (by decide) ?_
    refine XS.goto X20.here hx rfl (pc0 := 315) (pc' := 45) rfl (hb hby d9_315) (by decide) (by decide) ?_
    exact kz)
  exact ⟨T20, _, _, X20, e20, N20, Kk20, Dk20, G20, fun tz kz => S21 tz kz⟩
set_option maxRecDepth 65536 in
set_option maxHeartbeats 40000000 in
theorem own_B0 {p : Program} {l : Launch} {e : Env} {s : State} {m : MethodId} {args : Array Value} {below : List Frame} {meth : Method} {c : Code} {T0 : State} {locs : List Loc} {Z : State} {av0 : Array Value} {h0 : Heap} {n0 : Nat} (a0 : Addr) (av : Addr) (al : Addr) (ah : Addr) (au : Addr) (qa : Addr) (qb : Addr) (qc : Addr) (qd : Addr) (vr : Nat → Int32) (lw : Nat → Int32) (hg : Nat → Int32) (uq : Nat → Int32) (c1 : Nat → Int32) (c2 : Nat → Int32) (c3 : Nat → Int32) (c4 : Nat → Int32) (sz : Nat) (b0 : Addr) (bf : Addr) (bg : Addr) (bh : Addr) (bv : Addr) (bi : Addr) (bl : Addr) (Ff : Nat → Int32) (Fg : Nat → Int32) (Fh : Nat → Int32) (Fv : Nat → Int32) (Fi : Nat → Int32) (Fl : Nat → Int32) (q : Nat) (f : Nat) (g : Nat) (gz : Nat) (yv : Int32) (s1 : Slot) (s2 : Slot) (s3 : Slot) (s4 : Slot) (x7 : Slot) (x8 : Slot) (x9 : Slot) (x10 : Slot) (x11 : Slot) (x12 : Slot) (x13 : Slot) (r1 : Nat) (r2 : Nat) (r3 : Nat) (yw : Int32) (X0 : Stand p l e ({ frames := 3, cells := 7, slots := 103, locals := 48 } : Room) s m args below meth c T0 locs 7 103) (hx : p.tables.exec = Jvm.exec) (hZ : Z.Warmed39 s.vm) (hw : ∀ d ∈ tables_1, d.before av0 Z = true) (hby : c.code = prog_72_method_3_code) (hml : c.maxLocals = 14) (hown : s.vm.findClass mN15.cls = some m.cls) (e0 : T0.heap = h0) (N0 : Fr n0 locs) (Z0 : n0 ≤ h0.size) (hD : own_Dia Z h0 a0 av al ah au qa qb qc qd vr lw hg uq c1 c2 c3 c4 sz) (hG : own_Frm Z h0 b0 bf bg bh bv bi bl Ff Fg Fh Fv Fi Fl (q + 1)) (hS : own_Sep n0 [a0, av, al, ah, au, qa, qb, qc, qd]) (hSG : own_Sep n0 [b0, bf, bg, bh, bv, bi, bl]) (dj : ∀ y ∈ [a0, av, al, ah, au, qa, qb, qc, qd], y ∉ [b0, bf, bg, bh, bv, bi, bl]) (hq : q < 14) (hFf : Ff q = own_n f) (hFg : Fg q = own_n g) (hFh : Fh q = own_n gz) (hFv : Fv q = yv) (hf : f < 1000) (hg' : g < 1000) (hh' : gz < 1000) (hx7 : own_I1 x7) (hx8 : own_I1 x8) (hx9 : own_I1 x9) (hx10 : own_I1 x10) (hx11 : own_I1 x11) (hx12 : own_I1 x12) (hx13 : own_I1 x13) (hi : ¬ Fi q = -1) (lo : Fl q = -1) (hc1 : (vr f = yv → lw f = own_n r1) ∧ (¬ vr f = yv → f = r1)) (hc2 : (vr g = yv → lw g = own_n r2) ∧ (¬ vr g = yv → g = r2)) (hc3 : (vr gz = yv → lw gz = own_n r3) ∧ (¬ vr gz = yv → gz = r3)) (n1 : ¬ own_n r1 = 1) (n23 : ¬ own_n r2 = own_n r3) (n0' : ¬ own_n r1 = 0) (n10 : ¬ (own_n r2 = 1 ∧ own_n r3 = 0)) (hm : ¬ c1 (own_cs (own_n r1) (own_n r2) (own_n r3)) = own_n r1) (htop : own_min (vr r1) (own_min (vr r2) (vr r3)) = yw) (hr1 : r1 < 1000) (hr2 : r2 < 1000) (hr3 : r3 < 1000) :
    ∃ (T' : State) (h' : Heap) (locs' : List Loc), Stand p l e ({ frames := 3, cells := 7, slots := 103, locals := 48 } : Room) s m args below meth c T' locs' 7 103 ∧ T'.heap = h' ∧ Fr n0 locs' ∧ Keep h0 h' [a0, av, al, ah, au, qa, qb, qc, qd, b0, bf, bg, bh, bv, bi, bl] ∧ own_Dia Z h' a0 av al ah au qa qb qc qd vr lw hg uq c1 c2 c3 c4 sz ∧ own_Frm Z h' b0 bf bg bh bv bi bl (own_up Ff (q + 1) (own_n r1)) (own_up Fg (q + 1) (own_n r2)) (own_up Fh (q + 1) (own_n r3)) (own_up Fv (q + 1) yw) (own_up Fi (q + 1) (-1 : Int32)) (own_up Fl (q + 1) (-1 : Int32)) (q + 1 + 1) ∧ ∀ tz, oS p e below T' (mkF m 45 #[rv a0, s1, s2, s3, s4, rv b0, iv (-1 : Int32), iv (own_n q), iv yv, iv 0, iv (own_n r1), iv (own_n r2), iv (own_n r3), iv (-1 : Int32)] []) tz → oS p e below T0 (mkF m 45 #[rv a0, s1, s2, s3, s4, rv b0, iv (-1 : Int32), x7, x8, x9, x10, x11, x12, x13] []) tz := by
  obtain ⟨T1, X1, e1, st1⟩ := getF X0 hx hZ hown (host := "") (Or.inl (hw _ (own_w 104 rfl))) Via.refl e0 hG.Fs (g := (mkF m 53 #[rv a0, s1, s2, s3, s4, rv b0, iv (-1 : Int32), x7, x8, x9, x10, x11, x12, x13] [(.ref b0)])) rfl rfl (hb hby d9_53)
  obtain ⟨T2, X2, e2, st2⟩ := getF X1 hx hZ hown (host := "") (Or.inl (hw _ (own_w 105 rfl))) Via.refl e1 hG.Fbv (g := (mkF m 62 #[rv a0, s1, s2, s3, s4, rv b0, iv (-1 : Int32), iv (own_n q), x8, x9, x10, x11, x12, x13] [(.ref b0)])) rfl rfl (hb hby d9_62)
  obtain ⟨kc3, cl3, Ar3, qk3, Sz3, Ng3, Hs3, Gs3⟩ := id hG.Abv
  have hin3 : ¬ ((own_n q) < 0 ∨ cl3.slots.size ≤ ((own_n q)).toNatClampNeg) := own_inb (n := 16) (k := q) Sz3 (by decide) (by omega)
  have hat3 : cl3.slots[((own_n q)).toNatClampNeg]? = some (.int yv) := own_at (n := 16) (k := q) (g := Fv) Hs3 Sz3 (by decide) (by omega) hFv
  obtain ⟨T4, X4, e4, st4⟩ := getF X2 hx hZ hown (host := "") (Or.inl (hw _ (own_w 106 rfl))) Via.refl e2 hG.Fbi (g := (mkF m 72 #[rv a0, s1, s2, s3, s4, rv b0, iv (-1 : Int32), iv (own_n q), iv yv, x9, x10, x11, x12, x13] [(.ref b0)])) rfl rfl (hb hby d9_72)
  obtain ⟨kc5, cl5, Ar5, qk5, Sz5, Ng5, Hs5, Gs5⟩ := id hG.Abi
  have hin5 : ¬ ((own_n q) < 0 ∨ cl5.slots.size ≤ ((own_n q)).toNatClampNeg) := own_inb (n := 16) (k := q) Sz5 (by decide) (by omega)
  have hat5 : cl5.slots[((own_n q)).toNatClampNeg]? = some (.int (Fi q)) := own_at (n := 16) (k := q) (g := Fi) Hs5 Sz5 (by decide) (by omega) rfl
  obtain ⟨T6, X6, e6, st6⟩ := getF X4 hx hZ hown (host := "") (Or.inl (hw _ (own_w 119 rfl))) Via.refl e4 hG.Fbl (g := (mkF m 84 #[rv a0, s1, s2, s3, s4, rv b0, iv (-1 : Int32), iv (own_n q), iv yv, x9, x10, x11, x12, x13] [(.ref b0)])) rfl rfl (hb hby d9_84)
  obtain ⟨kc7, cl7, Ar7, qk7, Sz7, Ng7, Hs7, Gs7⟩ := id hG.Abl
  have hin7 : ¬ ((own_n q) < 0 ∨ cl7.slots.size ≤ ((own_n q)).toNatClampNeg) := own_inb (n := 16) (k := q) Sz7 (by decide) (by omega)
  have hat7 : cl7.slots[((own_n q)).toNatClampNeg]? = some (.int (-1 : Int32)) := own_at (n := 16) (k := q) (g := Fl) Hs7 Sz7 (by decide) (by omega) lo
  obtain ⟨T8, X8, e8, st8⟩ := getF X6 hx hZ hown (host := "") (Or.inl (hw _ (own_w 106 rfl))) Via.refl e6 hG.Fbi (g := (mkF m 96 #[rv a0, s1, s2, s3, s4, rv b0, iv (-1 : Int32), iv (own_n q), iv yv, x9, x10, x11, x12, x13] [(.ref b0)])) rfl rfl (hb hby d9_96)
  obtain ⟨kc9, cl9, Ar9, qk9, Sz9, Ng9, Hs9, Gs9⟩ := id hG.Abi
  have hin9 : ¬ ((own_n q) < 0 ∨ cl9.slots.size ≤ ((own_n q)).toNatClampNeg) := own_inb (n := 16) (k := q) Sz9 (by decide) (by omega)
  have hat9 : cl9.slots[((own_n q)).toNatClampNeg]? = some (.int (Fi q)) := own_at (n := 16) (k := q) (g := Fi) Hs9 Sz9 (by decide) (by omega) rfl
  obtain ⟨T10, X10, e10, st10⟩ := getF X8 hx hZ hown (host := "") (Or.inl (hw _ (own_w 107 rfl))) Via.refl e8 hG.Fbf (g := (mkF m 116 #[rv a0, s1, s2, s3, s4, rv b0, iv (-1 : Int32), iv (own_n q), iv yv, iv 0, x10, x11, x12, x13] [(.ref b0), (.ref a0)])) rfl rfl (hb hby d9_116)
  obtain ⟨kc11, cl11, Ar11, qk11, Sz11, Ng11, Hs11, Gs11⟩ := id hG.Abf
  have hin11 : ¬ ((own_n q) < 0 ∨ cl11.slots.size ≤ ((own_n q)).toNatClampNeg) := own_inb (n := 16) (k := q) Sz11 (by decide) (by omega)
  have hat11 : cl11.slots[((own_n q)).toNatClampNeg]? = some (.int (own_n f)) := own_at (n := 16) (k := q) (g := Ff) Hs11 Sz11 (by decide) (by omega) hFf
  obtain ⟨_, T12, Lc12, X12, hQ12, st12⟩ := own_private (W := 0) (y := mN10) X10 hx hZ hown (hw _ (own_w 108 rfl)) (hw _ (own_w 4 rfl)) (hw _ (own_w 110 rfl)) (hw _ (own_w 109 rfl)) (hw _ (own_w 111 rfl)) (hw _ (own_w 5 rfl)) (by decide) (rmCof0 l Z av0 hw [] a0 av al ah au qa qb qc qd vr lw hg uq c1 c2 c3 c4 sz f r1 yv h0 n0 Z0 hD hf hc1) (by decide) (by decide) hD.E (g := (mkF m 126 #[rv a0, s1, s2, s3, s4, rv b0, iv (-1 : Int32), iv (own_n q), iv yv, iv 0, x10, x11, x12, x13] [(.int 0), (.int yv), (.int (own_n f)), (.ref a0)])) rfl (by rw [hml]; rfl) (argsL := [(.int (own_n f)), (.int yv), (.int 0)]) (rest := []) (lenOf pd__IIZ_I rfl) rfl (hb hby d9_126) rfl e10 (by decide : 7 + 0 ≤ _) (by decide : 103 + 0 ≤ _)
  obtain ⟨rfl, N12q, hh12⟩ := hQ12
  have N12 := Fr.app N0 N12q
  have e12 : T12.heap = h0 := hh12
  obtain ⟨T13, X13, e13, st13⟩ := getF X12 hx hZ hown (host := "") (Or.inl (hw _ (own_w 112 rfl))) Via.refl e12 hG.Fbg (g := (mkF m 134 #[rv a0, s1, s2, s3, s4, rv b0, iv (-1 : Int32), iv (own_n q), iv yv, iv 0, iv (own_n r1), x11, x12, x13] [(.ref b0), (.ref a0)])) rfl rfl (hb hby d9_134)
  obtain ⟨kc14, cl14, Ar14, qk14, Sz14, Ng14, Hs14, Gs14⟩ := id hG.Abg
  have hin14 : ¬ ((own_n q) < 0 ∨ cl14.slots.size ≤ ((own_n q)).toNatClampNeg) := own_inb (n := 16) (k := q) Sz14 (by decide) (by omega)
  have hat14 : cl14.slots[((own_n q)).toNatClampNeg]? = some (.int (own_n g)) := own_at (n := 16) (k := q) (g := Fg) Hs14 Sz14 (by decide) (by omega) hFg
  obtain ⟨_, T15, Lc15, X15, hQ15, st15⟩ := own_private (W := 0) (y := mN10) X13 hx hZ hown (hw _ (own_w 108 rfl)) (hw _ (own_w 4 rfl)) (hw _ (own_w 110 rfl)) (hw _ (own_w 109 rfl)) (hw _ (own_w 111 rfl)) (hw _ (own_w 5 rfl)) (by decide) (rmCof0 l Z av0 hw [] a0 av al ah au qa qb qc qd vr lw hg uq c1 c2 c3 c4 sz g r2 yv h0 n0 Z0 hD hg' hc2) (by decide) (by decide) hD.E (g := (mkF m 144 #[rv a0, s1, s2, s3, s4, rv b0, iv (-1 : Int32), iv (own_n q), iv yv, iv 0, iv (own_n r1), x11, x12, x13] [(.int 0), (.int yv), (.int (own_n g)), (.ref a0)])) rfl (by rw [hml]; rfl) (argsL := [(.int (own_n g)), (.int yv), (.int 0)]) (rest := []) (lenOf pd__IIZ_I rfl) rfl (hb hby d9_144) rfl e13 (by decide : 7 + 0 ≤ _) (by decide : 103 + 0 ≤ _)
  obtain ⟨rfl, N15q, hh15⟩ := hQ15
  have N15 := Fr.app N12 N15q
  have e15 : T15.heap = h0 := hh15
  obtain ⟨T16, X16, e16, st16⟩ := getF X15 hx hZ hown (host := "") (Or.inl (hw _ (own_w 113 rfl))) Via.refl e15 hG.Fbh (g := (mkF m 152 #[rv a0, s1, s2, s3, s4, rv b0, iv (-1 : Int32), iv (own_n q), iv yv, iv 0, iv (own_n r1), iv (own_n r2), x12, x13] [(.ref b0), (.ref a0)])) rfl rfl (hb hby d9_152)
  obtain ⟨kc17, cl17, Ar17, qk17, Sz17, Ng17, Hs17, Gs17⟩ := id hG.Abh
  have hin17 : ¬ ((own_n q) < 0 ∨ cl17.slots.size ≤ ((own_n q)).toNatClampNeg) := own_inb (n := 16) (k := q) Sz17 (by decide) (by omega)
  have hat17 : cl17.slots[((own_n q)).toNatClampNeg]? = some (.int (own_n gz)) := own_at (n := 16) (k := q) (g := Fh) Hs17 Sz17 (by decide) (by omega) hFh
  obtain ⟨_, T18, Lc18, X18, hQ18, st18⟩ := own_private (W := 0) (y := mN10) X16 hx hZ hown (hw _ (own_w 108 rfl)) (hw _ (own_w 4 rfl)) (hw _ (own_w 110 rfl)) (hw _ (own_w 109 rfl)) (hw _ (own_w 111 rfl)) (hw _ (own_w 5 rfl)) (by decide) (rmCof0 l Z av0 hw [] a0 av al ah au qa qb qc qd vr lw hg uq c1 c2 c3 c4 sz gz r3 yv h0 n0 Z0 hD hh' hc3) (by decide) (by decide) hD.E (g := (mkF m 162 #[rv a0, s1, s2, s3, s4, rv b0, iv (-1 : Int32), iv (own_n q), iv yv, iv 0, iv (own_n r1), iv (own_n r2), x12, x13] [(.int 0), (.int yv), (.int (own_n gz)), (.ref a0)])) rfl (by rw [hml]; rfl) (argsL := [(.int (own_n gz)), (.int yv), (.int 0)]) (rest := []) (lenOf pd__IIZ_I rfl) rfl (hb hby d9_162) rfl e16 (by decide : 7 + 0 ≤ _) (by decide : 103 + 0 ≤ _)
  obtain ⟨rfl, N18q, hh18⟩ := hQ18
  have N18 := Fr.app N15 N18q
  have e18 : T18.heap = h0 := hh18
  obtain ⟨_, T19, Lc19, X19, hQ19, st19⟩ := own_private (W := 0) (y := mN7) X18 hx hZ hown (hw _ (own_w 62 rfl)) (hw _ (own_w 4 rfl)) (hw _ (own_w 64 rfl)) (hw _ (own_w 63 rfl)) (hw _ (own_w 65 rfl)) (hw _ (own_w 5 rfl)) (by decide) (rmKM l Z av0 hw [] a0 av al ah au qa qb qc qd vr lw hg uq c1 c2 c3 c4 sz (own_n r1) (own_n r2) (own_n r3) h0 n0 Z0 hD n1 n23 n0' n10 hm) (by decide) (by decide) hD.E (g := (mkF m 174 #[rv a0, s1, s2, s3, s4, rv b0, iv (-1 : Int32), iv (own_n q), iv yv, iv 0, iv (own_n r1), iv (own_n r2), iv (own_n r3), x13] [(.int (own_n r3)), (.int (own_n r2)), (.int (own_n r1)), (.ref a0)])) rfl (by rw [hml]; rfl) (argsL := [(.int (own_n r1)), (.int (own_n r2)), (.int (own_n r3))]) (rest := []) (lenOf pd__III_I rfl) rfl (hb hby d9_174) rfl e18 (by decide : 7 + 0 ≤ _) (by decide : 103 + 0 ≤ _)
  obtain ⟨rfl, N19q, hh19⟩ := hQ19
  have N19 := Fr.app N18 N19q
  have e19 : T19.heap = h0 := hh19
  obtain ⟨_, T20, Lc20, X20, hQ20, st20⟩ := own_private (W := 4) (y := mN9) X19 hx hZ hown (hw _ (own_w 89 rfl)) (hw _ (own_w 4 rfl)) (hw _ (own_w 91 rfl)) (hw _ (own_w 90 rfl)) (hw _ (own_w 92 rfl)) (hw _ (own_w 5 rfl)) (by decide) (rmTop l Z av0 hw [] a0 av al ah au qa qb qc qd vr lw hg uq c1 c2 c3 c4 sz r1 r2 r3 h0 n0 Z0 hD hr1 hr2 hr3) (by decide) (by decide) hD.E (g := (mkF m 200 #[rv a0, s1, s2, s3, s4, rv b0, iv (-1 : Int32), iv (own_n q), iv yv, iv 0, iv (own_n r1), iv (own_n r2), iv (own_n r3), iv (-1 : Int32)] [(.int (own_n r3)), (.int (own_n r2)), (.int (own_n r1)), (.ref a0), (.int (own_n r3)), (.int (own_n r2)), (.int (own_n r1)), (.ref b0)])) rfl (by rw [hml]; rfl) (argsL := [(.int (own_n r1)), (.int (own_n r2)), (.int (own_n r3))]) (rest := [(.int (own_n r3)), (.int (own_n r2)), (.int (own_n r1)), (.ref b0)]) (lenOf pd__III_I rfl) rfl (hb hby d9_200) rfl e19 (by decide : 7 + 0 ≤ _) (by decide : 103 + 0 ≤ _)
  obtain ⟨rfl, N20q, hh20⟩ := hQ20
  have N20 := Fr.app N19 N20q
  have e20 : T20.heap = h0 := hh20
  obtain ⟨_, T21, Lc21, X21, hQ21, st21⟩ := own_virtual (W := 0) (y := mN13) (z := mN13) X20 hx hZ hown (hw _ (own_w 97 rfl)) (hw _ (own_w 98 rfl)) (notFace_of_selects (args := #[]) (mvT hZ (hw _ (own_w 100 rfl)))) (hw _ (own_w 100 rfl)) (hw _ (own_w 99 rfl)) (hw _ (own_w 101 rfl)) (hw _ (own_w 72 rfl)) (by decide) (rmPush l Z av0 hw [] b0 bf bg bh bv bi bl Ff Fg Fh Fv Fi Fl (q + 1) (own_n r1) (own_n r2) (own_n r3) yw h0 n0 Z0 hG hSG (by omega)) (by decide) (by decide) hG.E (g := (mkF m 203 #[rv a0, s1, s2, s3, s4, rv b0, iv (-1 : Int32), iv (own_n q), iv yv, iv 0, iv (own_n r1), iv (own_n r2), iv (own_n r3), iv (-1 : Int32)] [(.int yw), (.int (own_n r3)), (.int (own_n r2)), (.int (own_n r1)), (.ref b0)])) rfl (by rw [hml]; rfl) (argsL := [(.int (own_n r1)), (.int (own_n r2)), (.int (own_n r3)), (.int yw)]) (rest := []) (lenOf pd__IIII_V rfl) rfl (hb hby d9_203) rfl e20 (by decide : 7 + 0 ≤ _) (by decide : 103 + 0 ≤ _)
  obtain ⟨rfl, N21q, K21, G21⟩ := hQ21
  have N21 := Fr.app N20 N21q
  have e21 : T21.heap = T21.heap := rfl
  have Zk21 : n0 ≤ T21.heap.size := Nat.le_trans Z0 K21.1
  have Kk21 : Keep h0 T21.heap [a0, av, al, ah, au, qa, qb, qc, qd, b0, bf, bg, bh, bv, bi, bl] := (Keep.refl h0 [a0, av, al, ah, au, qa, qb, qc, qd, b0, bf, bg, bh, bv, bi, bl]).trans K21 (allS (Or.inl (List.mem_of_getElem? (i := 9) rfl)) (allS (Or.inl (List.mem_of_getElem? (i := 10) rfl)) (allS (Or.inl (List.mem_of_getElem? (i := 11) rfl)) (allS (Or.inl (List.mem_of_getElem? (i := 12) rfl)) (allS (Or.inl (List.mem_of_getElem? (i := 13) rfl)) (allS (Or.inl (List.mem_of_getElem? (i := 14) rfl)) (allS (Or.inl (List.mem_of_getElem? (i := 15) rfl)) all0)))))))
  have Dk21 := hD.keep K21 dj
  have S22 : ∀ tz, oS p e below T21 (mkF m 45 #[rv a0, s1, s2, s3, s4, rv b0, iv (-1 : Int32), iv (own_n q), iv yv, iv 0, iv (own_n r1), iv (own_n r2), iv (own_n r3), iv (-1 : Int32)] []) tz → oS p e below T0 (mkF m 45 #[rv a0, s1, s2, s3, s4, rv b0, iv (-1 : Int32), x7, x8, x9, x10, x11, x12, x13] []) tz := fun tz kz => id (by
    show oS p e below T0 (mkF m 45 #[rv a0, s1, s2, s3, s4, rv b0, iv (-1 : Int32), x7, x8, x9, x10, x11, x12, x13] []) _
    refine XS.iload X0.here hx rfl (hb hby d9_45) rfl ?_
    refine XT.iconstV X0.here hx rfl (-1 : Int32) (hb hby d9_47) (by decide) ?_
    refine XS.icmpNo X0.here hx rfl (hb hby d9_48) rfl (XT.ii_ne_f (by decide)) ?_
    refine XS.aload X0.here hx rfl (hb hby d9_51) rfl rfl ?_
    refine st1 _ ?_
    refine XT.iconstV X1.here hx rfl (1 : Int32) (hb hby d9_56) (by decide) ?_
    refine XS.isub X1.here hx rfl (hb hby d9_57) rfl ?_
    show oS p e below T1 (mkF m 58 #[rv a0, s1, s2, s3, s4, rv b0, iv (-1 : Int32), x7, x8, x9, x10, x11, x12, x13] [(.int ((own_n (q + 1)) - (1 : Int32)))]) _
    rw [own_nsub (by omega)]
    show oS p e below T1 (mkF m 58 #[rv a0, s1, s2, s3, s4, rv b0, iv (-1 : Int32), x7, x8, x9, x10, x11, x12, x13] [(.int (own_n q))]) _
    refine XS.istore X1.here hx rfl (hb hby d9_58) rfl (l' := #[rv a0, s1, s2, s3, s4, rv b0, iv (-1 : Int32), iv (own_n q), x8, x9, x10, x11, x12, x13]) (by rcases hx7 with z | ⟨y, z⟩ <;> subst z <;> rfl) ?_
    refine XS.aload X1.here hx rfl (hb hby d9_60) rfl rfl ?_
    show oS p e below T1 (mkF m 62 #[rv a0, s1, s2, s3, s4, rv b0, iv (-1 : Int32), iv (own_n q), x8, x9, x10, x11, x12, x13] [(.ref b0)]) _
    refine st2 _ ?_
    refine XS.iload X2.here hx rfl (hb hby d9_65) rfl ?_
    refine X2.iaload hx (j := (own_n q)) (v := (.int yv)) (by rw [e2]; exact Ar3.1) (State.isArrayOf_alike hZ.alike Ar3.2.1) Ar3.2.2 hin3 hat3 (g := (mkF m 67 #[rv a0, s1, s2, s3, s4, rv b0, iv (-1 : Int32), iv (own_n q), x8, x9, x10, x11, x12, x13] [(.int (own_n q)), (.ref bv)])) rfl rfl (hb hby d9_67) _ ?_
    refine XS.istore X2.here hx rfl (hb hby d9_68) rfl (l' := #[rv a0, s1, s2, s3, s4, rv b0, iv (-1 : Int32), iv (own_n q), iv yv, x9, x10, x11, x12, x13]) (by rcases hx8 with z | ⟨y, z⟩ <;> subst z <;> rfl) ?_
    refine XS.aload X2.here hx rfl (hb hby d9_70) rfl rfl ?_
    refine st4 _ ?_
    refine XS.iload X4.here hx rfl (hb hby d9_75) rfl ?_
    refine X4.iaload hx (j := (own_n q)) (v := (.int (Fi q))) (by rw [e4]; exact Ar5.1) (State.isArrayOf_alike hZ.alike Ar5.2.1) Ar5.2.2 hin5 hat5 (g := (mkF m 77 #[rv a0, s1, s2, s3, s4, rv b0, iv (-1 : Int32), iv (own_n q), iv yv, x9, x10, x11, x12, x13] [(.int (own_n q)), (.ref bi)])) rfl rfl (hb hby d9_77) _ ?_
    refine XT.iconstV X4.here hx rfl (-1 : Int32) (hb hby d9_78) (by decide) ?_
    refine XS.icmpNo X4.here hx rfl (hb hby d9_79) rfl (XT.ii_eq_f hi) ?_
    show oS p e below T4 (mkF m 82 #[rv a0, s1, s2, s3, s4, rv b0, iv (-1 : Int32), iv (own_n q), iv yv, x9, x10, x11, x12, x13] []) _
    refine XS.aload X4.here hx rfl (hb hby d9_82) rfl rfl ?_
    refine st6 _ ?_
    refine XS.iload X6.here hx rfl (hb hby d9_87) rfl ?_
    refine X6.iaload hx (j := (own_n q)) (v := (.int (-1 : Int32))) (by rw [e6]; exact Ar7.1) (State.isArrayOf_alike hZ.alike Ar7.2.1) Ar7.2.2 hin7 hat7 (g := (mkF m 89 #[rv a0, s1, s2, s3, s4, rv b0, iv (-1 : Int32), iv (own_n q), iv yv, x9, x10, x11, x12, x13] [(.int (own_n q)), (.ref bl)])) rfl rfl (hb hby d9_89) _ ?_
    refine XT.iconstV X6.here hx rfl (-1 : Int32) (hb hby d9_90) (by decide) ?_
    refine XS.icmpNo X6.here hx rfl (hb hby d9_91) rfl (XT.ii_ne_f (by decide)) ?_
    refine XS.aload X6.here hx rfl (hb hby d9_94) rfl rfl ?_
    refine st8 _ ?_
    refine XS.iload X8.here hx rfl (hb hby d9_99) rfl ?_
    refine X8.iaload hx (j := (own_n q)) (v := (.int (Fi q))) (by rw [e8]; exact Ar9.1) (State.isArrayOf_alike hZ.alike Ar9.2.1) Ar9.2.2 hin9 hat9 (g := (mkF m 101 #[rv a0, s1, s2, s3, s4, rv b0, iv (-1 : Int32), iv (own_n q), iv yv, x9, x10, x11, x12, x13] [(.int (own_n q)), (.ref bi)])) rfl rfl (hb hby d9_101) _ ?_
    show oS p e below T8 (mkF m 102 #[rv a0, s1, s2, s3, s4, rv b0, iv (-1 : Int32), iv (own_n q), iv yv, x9, x10, x11, x12, x13] [(.int (Fi q))]) _
    refine XT.iconstV X8.here hx rfl (-1 : Int32) (hb hby d9_102) (by decide) ?_
    refine XS.icmpYes X8.here hx rfl (pc0 := 103) (pc' := 110) rfl (hb hby d9_103) rfl (XT.ii_ne_t hi) (by decide) (by decide) ?_
    refine XT.iconstV X8.here hx rfl (0 : Int32) (hb hby d9_110) (by decide) ?_
    refine XS.istore X8.here hx rfl (hb hby d9_111) rfl (l' := #[rv a0, s1, s2, s3, s4, rv b0, iv (-1 : Int32), iv (own_n q), iv yv, iv 0, x10, x11, x12, x13]) (by rcases hx9 with z | ⟨y, z⟩ <;> subst z <;> rfl) ?_
    refine XS.aloadN X8.here hx rfl (hb hby d9_113) rfl rfl ?_
    refine XS.aload X8.here hx rfl (hb hby d9_114) rfl rfl ?_
    refine st10 _ ?_
    refine XS.iload X10.here hx rfl (hb hby d9_119) rfl ?_
    refine X10.iaload hx (j := (own_n q)) (v := (.int (own_n f))) (by rw [e10]; exact Ar11.1) (State.isArrayOf_alike hZ.alike Ar11.2.1) Ar11.2.2 hin11 hat11 (g := (mkF m 121 #[rv a0, s1, s2, s3, s4, rv b0, iv (-1 : Int32), iv (own_n q), iv yv, iv 0, x10, x11, x12, x13] [(.int (own_n q)), (.ref bf), (.ref a0)])) rfl rfl (hb hby d9_121) _ ?_
    refine XS.iload X10.here hx rfl (hb hby d9_122) rfl ?_
    show oS p e below T10 (mkF m 124 #[rv a0, s1, s2, s3, s4, rv b0, iv (-1 : Int32), iv (own_n q), iv yv, iv 0, x10, x11, x12, x13] [(.int yv), (.int (own_n f)), (.ref a0)]) _
    refine XS.iload X10.here hx rfl (hb hby d9_124) rfl ?_
    refine st12 _ ?_
    refine XS.istore X12.here hx rfl (hb hby d9_129) rfl (l' := #[rv a0, s1, s2, s3, s4, rv b0, iv (-1 : Int32), iv (own_n q), iv yv, iv 0, iv (own_n r1), x11, x12, x13]) (by rcases hx10 with z | ⟨y, z⟩ <;> subst z <;> rfl) ?_
    refine XS.aloadN X12.here hx rfl (hb hby d9_131) rfl rfl ?_
    refine XS.aload X12.here hx rfl (hb hby d9_132) rfl rfl ?_
    refine st13 _ ?_
    refine XS.iload X13.here hx rfl (hb hby d9_137) rfl ?_
    refine X13.iaload hx (j := (own_n q)) (v := (.int (own_n g))) (by rw [e13]; exact Ar14.1) (State.isArrayOf_alike hZ.alike Ar14.2.1) Ar14.2.2 hin14 hat14 (g := (mkF m 139 #[rv a0, s1, s2, s3, s4, rv b0, iv (-1 : Int32), iv (own_n q), iv yv, iv 0, iv (own_n r1), x11, x12, x13] [(.int (own_n q)), (.ref bg), (.ref a0)])) rfl rfl (hb hby d9_139) _ ?_
    refine XS.iload X13.here hx rfl (hb hby d9_140) rfl ?_
    refine XS.iload X13.here hx rfl (hb hby d9_142) rfl ?_
    show oS p e below T13 (mkF m 144 #[rv a0, s1, s2, s3, s4, rv b0, iv (-1 : Int32), iv (own_n q), iv yv, iv 0, iv (own_n r1), x11, x12, x13] [(.int 0), (.int yv), (.int (own_n g)), (.ref a0)]) _
    refine st15 _ ?_
    refine XS.istore X15.here hx rfl (hb hby d9_147) rfl (l' := #[rv a0, s1, s2, s3, s4, rv b0, iv (-1 : Int32), iv (own_n q), iv yv, iv 0, iv (own_n r1), iv (own_n r2), x12, x13]) (by rcases hx11 with z | ⟨y, z⟩ <;> subst z <;> rfl) ?_
    refine XS.aloadN X15.here hx rfl (hb hby d9_149) rfl rfl ?_
    refine XS.aload X15.here hx rfl (hb hby d9_150) rfl rfl ?_
    refine st16 _ ?_
    refine XS.iload X16.here hx rfl (hb hby d9_155) rfl ?_
    refine X16.iaload hx (j := (own_n q)) (v := (.int (own_n gz))) (by rw [e16]; exact Ar17.1) (State.isArrayOf_alike hZ.alike Ar17.2.1) Ar17.2.2 hin17 hat17 (g := (mkF m 157 #[rv a0, s1, s2, s3, s4, rv b0, iv (-1 : Int32), iv (own_n q), iv yv, iv 0, iv (own_n r1), iv (own_n r2), x12, x13] [(.int (own_n q)), (.ref bh), (.ref a0)])) rfl rfl (hb hby d9_157) _ ?_
    refine XS.iload X16.here hx rfl (hb hby d9_158) rfl ?_
    refine XS.iload X16.here hx rfl (hb hby d9_160) rfl ?_
    refine st18 _ ?_
    show oS p e below T18 (mkF m 165 #[rv a0, s1, s2, s3, s4, rv b0, iv (-1 : Int32), iv (own_n q), iv yv, iv 0, iv (own_n r1), iv (own_n r2), x12, x13] [(.int (own_n r3))]) _
    refine XS.istore X18.here hx rfl (hb hby d9_165) rfl (l' := #[rv a0, s1, s2, s3, s4, rv b0, iv (-1 : Int32), iv (own_n q), iv yv, iv 0, iv (own_n r1), iv (own_n r2), iv (own_n r3), x13]) (by rcases hx12 with z | ⟨y, z⟩ <;> subst z <;> rfl) ?_
    refine XS.aloadN X18.here hx rfl (hb hby d9_167) rfl rfl ?_
    refine XS.iload X18.here hx rfl (hb hby d9_168) rfl ?_
    refine XS.iload X18.here hx rfl (hb hby d9_170) rfl ?_
    refine XS.iload X18.here hx rfl (hb hby d9_172) rfl ?_
    refine st19 _ ?_
    refine XS.istore X19.here hx rfl (hb hby d9_177) rfl (l' := #[rv a0, s1, s2, s3, s4, rv b0, iv (-1 : Int32), iv (own_n q), iv yv, iv 0, iv (own_n r1), iv (own_n r2), iv (own_n r3), iv (-1 : Int32)]) (by rcases hx13 with z | ⟨y, z⟩ <;> subst z <;> rfl) ?_
    refine XS.iload X19.here hx rfl (hb hby d9_179) rfl ?_
    refine XT.iconstV X19.here hx rfl (-1 : Int32) (hb hby d9_181) (by decide) ?_
    refine XS.icmpNo X19.here hx rfl (hb hby d9_182) rfl (XT.ii_ne_f (by decide)) ?_
    show oS p e below T19 (mkF m 185 #[rv a0, s1, s2, s3, s4, rv b0, iv (-1 : Int32), iv (own_n q), iv yv, iv 0, iv (own_n r1), iv (own_n r2), iv (own_n r3), iv (-1 : Int32)] []) _
    refine XS.aload X19.here hx rfl (hb hby d9_185) rfl rfl ?_
    refine XS.iload X19.here hx rfl (hb hby d9_187) rfl ?_
    refine XS.iload X19.here hx rfl (hb hby d9_189) rfl ?_
    refine XS.iload X19.here hx rfl (hb hby d9_191) rfl ?_
    refine XS.aloadN X19.here hx rfl (hb hby d9_193) rfl rfl ?_
    refine XS.iload X19.here hx rfl (hb hby d9_194) rfl ?_
    refine XS.iload X19.here hx rfl (hb hby d9_196) rfl ?_
    refine XS.iload X19.here hx rfl (hb hby d9_198) rfl ?_
    refine st20 _ ?_
    show oS p e below T20 (mkF m 203 #[rv a0, s1, s2, s3, s4, rv b0, iv (-1 : Int32), iv (own_n q), iv yv, iv 0, iv (own_n r1), iv (own_n r2), iv (own_n r3), iv (-1 : Int32)] [(.int (own_min (vr r1) (own_min (vr r2) (vr r3)))), (.int (own_n r3)), (.int (own_n r2)), (.int (own_n r1)), (.ref b0)]) _
    rw [htop]
    show oS p e below T20 (mkF m 203 #[rv a0, s1, s2, s3, s4, rv b0, iv (-1 : Int32), iv (own_n q), iv yv, iv 0, iv (own_n r1), iv (own_n r2), iv (own_n r3), iv (-1 : Int32)] [(.int yw), (.int (own_n r3)), (.int (own_n r2)), (.int (own_n r1)), (.ref b0)]) _
    refine st21 _ ?_
    refine XS.goto X21.here hx rfl (pc0 := 206) (pc' := 218) rfl (hb hby d9_206) (by decide) (by decide) ?_
    refine XS.goto X21.here hx rfl (pc0 := 218) (pc' := 315) rfl (hb hby d9_218) (by decide) (by decide) ?_
    refine XS.goto X21.here hx rfl (pc0 := 315) (pc' := 45) rfl (hb hby d9_315) (by decide) (by decide) ?_
    exact kz)
  exact ⟨T21, _, _, X21, e21, N21, Kk21, Dk21, G21, fun tz kz => S22 tz kz⟩
theorem d9_221 : decode prog_72_method_3_code 221 = .ok (.aload_n 0, 1) := by decide +kernel
theorem d9_222 : decode prog_72_method_3_code 222 = .ok (.iload 8, 2) := by decide +kernel
theorem d9_224 : decode prog_72_method_3_code 224 = .ok (.aload 5, 2) := by decide +kernel
theorem d9_226 : decode prog_72_method_3_code 226 = .ok (.getfield 76, 3) := by decide +kernel
theorem d9_229 : decode prog_72_method_3_code 229 = .ok (.iload 7, 2) := by decide +kernel
theorem d9_231 : decode prog_72_method_3_code 231 = .ok (.iaload, 1) := by decide +kernel
theorem d9_232 : decode prog_72_method_3_code 232 = .ok (.aload 5, 2) := by decide +kernel
theorem d9_234 : decode prog_72_method_3_code 234 = .ok (.getfield 75, 3) := by decide +kernel
theorem d9_237 : decode prog_72_method_3_code 237 = .ok (.iload 7, 2) := by decide +kernel
theorem d9_239 : decode prog_72_method_3_code 239 = .ok (.iaload, 1) := by decide +kernel
theorem d9_240 : decode prog_72_method_3_code 240 = .ok (.invokevirtual 54, 3) := by decide +kernel
theorem d9_243 : decode prog_72_method_3_code 243 = .ok (.istore 9, 2) := by decide +kernel
theorem d9_245 : decode prog_72_method_3_code 245 = .ok (.aload_n 0, 1) := by decide +kernel
theorem d9_246 : decode prog_72_method_3_code 246 = .ok (.aload 5, 2) := by decide +kernel
theorem d9_248 : decode prog_72_method_3_code 248 = .ok (.getfield 77, 3) := by decide +kernel
theorem d9_251 : decode prog_72_method_3_code 251 = .ok (.iload 7, 2) := by decide +kernel
theorem d9_253 : decode prog_72_method_3_code 253 = .ok (.iaload, 1) := by decide +kernel
theorem d9_254 : decode prog_72_method_3_code 254 = .ok (.aload 5, 2) := by decide +kernel
theorem d9_256 : decode prog_72_method_3_code 256 = .ok (.getfield 84, 3) := by decide +kernel
theorem d9_259 : decode prog_72_method_3_code 259 = .ok (.iload 7, 2) := by decide +kernel
theorem d9_261 : decode prog_72_method_3_code 261 = .ok (.iaload, 1) := by decide +kernel
theorem d9_262 : decode prog_72_method_3_code 262 = .ok (.aload 5, 2) := by decide +kernel
theorem d9_264 : decode prog_72_method_3_code 264 = .ok (.getfield 87, 3) := by decide +kernel
theorem d9_267 : decode prog_72_method_3_code 267 = .ok (.iload 7, 2) := by decide +kernel
theorem d9_269 : decode prog_72_method_3_code 269 = .ok (.iaload, 1) := by decide +kernel
theorem d9_270 : decode prog_72_method_3_code 270 = .ok (.iload 9, 2) := by decide +kernel
theorem d9_272 : decode prog_72_method_3_code 272 = .ok (.invokevirtual 94, 3) := by decide +kernel
theorem d9_275 : decode prog_72_method_3_code 275 = .ok (.aload 5, 2) := by decide +kernel
theorem d9_277 : decode prog_72_method_3_code 277 = .ok (.dup, 1) := by decide +kernel
theorem d9_278 : decode prog_72_method_3_code 278 = .ok (.getfield 71, 3) := by decide +kernel
theorem d9_281 : decode prog_72_method_3_code 281 = .ok (.iconst 1, 1) := by decide +kernel
theorem d9_282 : decode prog_72_method_3_code 282 = .ok (.isub, 1) := by decide +kernel
theorem d9_283 : decode prog_72_method_3_code 283 = .ok (.putfield 71, 3) := by decide +kernel
set_option maxRecDepth 65536 in
set_option maxHeartbeats 40000000 in
theorem own_C {p : Program} {l : Launch} {e : Env} {s : State} {m : MethodId} {args : Array Value} {below : List Frame} {meth : Method} {c : Code} {T0 : State} {locs : List Loc} {Z : State} {av0 : Array Value} {h0 : Heap} {n0 : Nat} (a0 : Addr) (av : Addr) (al : Addr) (ah : Addr) (au : Addr) (qa : Addr) (qb : Addr) (qc : Addr) (qd : Addr) (vr : Nat → Int32) (lw : Nat → Int32) (hg : Nat → Int32) (uq : Nat → Int32) (c1 : Nat → Int32) (c2 : Nat → Int32) (c3 : Nat → Int32) (c4 : Nat → Int32) (sz : Nat) (b0 : Addr) (bf : Addr) (bg : Addr) (bh : Addr) (bv : Addr) (bi : Addr) (bl : Addr) (Ff : Nat → Int32) (Fg : Nat → Int32) (Fh : Nat → Int32) (Fv : Nat → Int32) (Fi : Nat → Int32) (Fl : Nat → Int32) (q : Nat) (f : Nat) (g : Nat) (gz : Nat) (yv : Int32) (s1 : Slot) (s2 : Slot) (s3 : Slot) (s4 : Slot) (x7 : Slot) (x8 : Slot) (x9 : Slot) (x10 : Slot) (x11 : Slot) (x12 : Slot) (x13 : Slot) (gi : Nat) (li : Nat) (X0 : Stand p l e ({ frames := 3, cells := 7, slots := 103, locals := 48 } : Room) s m args below meth c T0 locs 7 103) (hx : p.tables.exec = Jvm.exec) (hZ : Z.Warmed39 s.vm) (hw : ∀ d ∈ tables_1, d.before av0 Z = true) (hby : c.code = prog_72_method_3_code) (hml : c.maxLocals = 14) (hown : s.vm.findClass mN15.cls = some m.cls) (e0 : T0.heap = h0) (N0 : Fr n0 locs) (Z0 : n0 ≤ h0.size) (hD : own_Dia Z h0 a0 av al ah au qa qb qc qd vr lw hg uq c1 c2 c3 c4 sz) (hG : own_Frm Z h0 b0 bf bg bh bv bi bl Ff Fg Fh Fv Fi Fl (q + 1)) (hS : own_Sep n0 [a0, av, al, ah, au, qa, qb, qc, qd]) (hSG : own_Sep n0 [b0, bf, bg, bh, bv, bi, bl]) (dj : ∀ y ∈ [a0, av, al, ah, au, qa, qb, qc, qd], y ∉ [b0, bf, bg, bh, bv, bi, bl]) (hq : q < 14) (hFf : Ff q = own_n f) (hFg : Fg q = own_n g) (hFh : Fh q = own_n gz) (hFv : Fv q = yv) (hf : f < 1000) (hg' : g < 1000) (hh' : gz < 1000) (hx7 : own_I1 x7) (hx8 : own_I1 x8) (hx9 : own_I1 x9) (hx10 : own_I1 x10) (hx11 : own_I1 x11) (hx12 : own_I1 x12) (hx13 : own_I1 x13) (hU : own_UI uq sz) (htwo : 2 ≤ sz) (hsz : sz < 900) (hi : Fi q = own_n gi) (lo : Fl q = own_n li) (hgi : gi < 1000) (hli : li < 1000) (hlh : ¬ li = gi) (hmis : ∀ n, 2 ≤ n → n < sz → ¬ (vr n = yv ∧ lw n = own_n li ∧ hg n = own_n gi)) :
    ∃ (T' : State) (h' : Heap) (locs' : List Loc), Stand p l e ({ frames := 3, cells := 7, slots := 103, locals := 48 } : Room) s m args below meth c T' locs' 7 103 ∧ T'.heap = h' ∧ Fr n0 locs' ∧ (∃ k : Nat, k < 2048 ∧ own_UI (own_up uq k (own_n sz)) (sz + 1) ∧ Keep h0 h' [a0, av, al, ah, au, qa, qb, qc, qd, b0, bf, bg, bh, bv, bi, bl] ∧ own_Dia Z h' a0 av al ah au qa qb qc qd (own_up vr sz yv) (own_up lw sz (own_n li)) (own_up hg sz (own_n gi)) (own_up uq k (own_n sz)) (own_up c1 (own_cs (own_n f) (own_n g) (own_n gz)) (own_n f)) (own_up c2 (own_cs (own_n f) (own_n g) (own_n gz)) (own_n g)) (own_up c3 (own_cs (own_n f) (own_n g) (own_n gz)) (own_n gz)) (own_up c4 (own_cs (own_n f) (own_n g) (own_n gz)) (own_n sz)) (sz + 1) ∧ own_Frm Z h' b0 bf bg bh bv bi bl Ff Fg Fh Fv Fi Fl q) ∧ ∀ tz, oS p e below T' (mkF m 286 #[rv a0, s1, s2, s3, s4, rv b0, iv (-1 : Int32), iv (own_n q), iv yv, iv (own_n sz), x10, x11, x12, x13] []) tz → oS p e below T0 (mkF m 45 #[rv a0, s1, s2, s3, s4, rv b0, iv (-1 : Int32), x7, x8, x9, x10, x11, x12, x13] []) tz := by
  obtain ⟨T1, X1, e1, st1⟩ := getF X0 hx hZ hown (host := "") (Or.inl (hw _ (own_w 104 rfl))) Via.refl e0 hG.Fs (g := (mkF m 53 #[rv a0, s1, s2, s3, s4, rv b0, iv (-1 : Int32), x7, x8, x9, x10, x11, x12, x13] [(.ref b0)])) rfl rfl (hb hby d9_53)
  obtain ⟨T2, X2, e2, st2⟩ := getF X1 hx hZ hown (host := "") (Or.inl (hw _ (own_w 105 rfl))) Via.refl e1 hG.Fbv (g := (mkF m 62 #[rv a0, s1, s2, s3, s4, rv b0, iv (-1 : Int32), iv (own_n q), x8, x9, x10, x11, x12, x13] [(.ref b0)])) rfl rfl (hb hby d9_62)
  obtain ⟨kc3, cl3, Ar3, qk3, Sz3, Ng3, Hs3, Gs3⟩ := id hG.Abv
  have hin3 : ¬ ((own_n q) < 0 ∨ cl3.slots.size ≤ ((own_n q)).toNatClampNeg) := own_inb (n := 16) (k := q) Sz3 (by decide) (by omega)
  have hat3 : cl3.slots[((own_n q)).toNatClampNeg]? = some (.int yv) := own_at (n := 16) (k := q) (g := Fv) Hs3 Sz3 (by decide) (by omega) hFv
  obtain ⟨T4, X4, e4, st4⟩ := getF X2 hx hZ hown (host := "") (Or.inl (hw _ (own_w 106 rfl))) Via.refl e2 hG.Fbi (g := (mkF m 72 #[rv a0, s1, s2, s3, s4, rv b0, iv (-1 : Int32), iv (own_n q), iv yv, x9, x10, x11, x12, x13] [(.ref b0)])) rfl rfl (hb hby d9_72)
  obtain ⟨kc5, cl5, Ar5, qk5, Sz5, Ng5, Hs5, Gs5⟩ := id hG.Abi
  have hin5 : ¬ ((own_n q) < 0 ∨ cl5.slots.size ≤ ((own_n q)).toNatClampNeg) := own_inb (n := 16) (k := q) Sz5 (by decide) (by omega)
  have hat5 : cl5.slots[((own_n q)).toNatClampNeg]? = some (.int (own_n gi)) := own_at (n := 16) (k := q) (g := Fi) Hs5 Sz5 (by decide) (by omega) hi
  obtain ⟨T6, X6, e6, st6⟩ := getF X4 hx hZ hown (host := "") (Or.inl (hw _ (own_w 119 rfl))) Via.refl e4 hG.Fbl (g := (mkF m 84 #[rv a0, s1, s2, s3, s4, rv b0, iv (-1 : Int32), iv (own_n q), iv yv, x9, x10, x11, x12, x13] [(.ref b0)])) rfl rfl (hb hby d9_84)
  obtain ⟨kc7, cl7, Ar7, qk7, Sz7, Ng7, Hs7, Gs7⟩ := id hG.Abl
  have hin7 : ¬ ((own_n q) < 0 ∨ cl7.slots.size ≤ ((own_n q)).toNatClampNeg) := own_inb (n := 16) (k := q) Sz7 (by decide) (by omega)
  have hat7 : cl7.slots[((own_n q)).toNatClampNeg]? = some (.int (own_n li)) := own_at (n := 16) (k := q) (g := Fl) Hs7 Sz7 (by decide) (by omega) lo
  obtain ⟨T8, X8, e8, st8⟩ := getF X6 hx hZ hown (host := "") (Or.inl (hw _ (own_w 119 rfl))) Via.refl e6 hG.Fbl (g := (mkF m 226 #[rv a0, s1, s2, s3, s4, rv b0, iv (-1 : Int32), iv (own_n q), iv yv, x9, x10, x11, x12, x13] [(.ref b0), (.int yv), (.ref a0)])) rfl rfl (hb hby d9_226)
  obtain ⟨kc9, cl9, Ar9, qk9, Sz9, Ng9, Hs9, Gs9⟩ := id hG.Abl
  have hin9 : ¬ ((own_n q) < 0 ∨ cl9.slots.size ≤ ((own_n q)).toNatClampNeg) := own_inb (n := 16) (k := q) Sz9 (by decide) (by omega)
  have hat9 : cl9.slots[((own_n q)).toNatClampNeg]? = some (.int (own_n li)) := own_at (n := 16) (k := q) (g := Fl) Hs9 Sz9 (by decide) (by omega) lo
  obtain ⟨T10, X10, e10, st10⟩ := getF X8 hx hZ hown (host := "") (Or.inl (hw _ (own_w 106 rfl))) Via.refl e8 hG.Fbi (g := (mkF m 234 #[rv a0, s1, s2, s3, s4, rv b0, iv (-1 : Int32), iv (own_n q), iv yv, x9, x10, x11, x12, x13] [(.ref b0), (.int (own_n li)), (.int yv), (.ref a0)])) rfl rfl (hb hby d9_234)
  obtain ⟨kc11, cl11, Ar11, qk11, Sz11, Ng11, Hs11, Gs11⟩ := id hG.Abi
  have hin11 : ¬ ((own_n q) < 0 ∨ cl11.slots.size ≤ ((own_n q)).toNatClampNeg) := own_inb (n := 16) (k := q) Sz11 (by decide) (by omega)
  have hat11 : cl11.slots[((own_n q)).toNatClampNeg]? = some (.int (own_n gi)) := own_at (n := 16) (k := q) (g := Fi) Hs11 Sz11 (by decide) (by omega) hi
  obtain ⟨_, T12, Lc12, X12, hQ12, st12⟩ := own_private (W := 0) (y := mN4) X10 hx hZ hown (hw _ (own_w 44 rfl)) (hw _ (own_w 4 rfl)) (hw _ (own_w 46 rfl)) (hw _ (own_w 45 rfl)) (hw _ (own_w 47 rfl)) (hw _ (own_w 5 rfl)) (by decide) (rmNode l Z av0 hw [] a0 av al ah au qa qb qc qd vr lw hg uq c1 c2 c3 c4 sz yv (own_n li) (own_n gi) h0 n0 Z0 hD hS hU htwo (by omega) (own_nne (by omega) (by omega) hlh) hmis) (by decide) (by decide) hD.E (g := (mkF m 240 #[rv a0, s1, s2, s3, s4, rv b0, iv (-1 : Int32), iv (own_n q), iv yv, x9, x10, x11, x12, x13] [(.int (own_n gi)), (.int (own_n li)), (.int yv), (.ref a0)])) rfl (by rw [hml]; rfl) (argsL := [(.int yv), (.int (own_n li)), (.int (own_n gi))]) (rest := []) (lenOf pd__III_I rfl) rfl (hb hby d9_240) rfl e10 (by decide : 7 + 0 ≤ _) (by decide : 103 + 0 ≤ _)
  obtain ⟨k12, hk12, rfl, N12q, K12, U12, D12⟩ := hQ12
  have N12 := Fr.app N0 N12q
  have e12 : T12.heap = T12.heap := rfl
  have Zk12 : n0 ≤ T12.heap.size := Nat.le_trans Z0 K12.1
  have Kk12 : Keep h0 T12.heap [a0, av, al, ah, au, qa, qb, qc, qd, b0, bf, bg, bh, bv, bi, bl] := (Keep.refl h0 [a0, av, al, ah, au, qa, qb, qc, qd, b0, bf, bg, bh, bv, bi, bl]).trans K12 (allS (Or.inl (List.mem_of_getElem? (i := 0) rfl)) (allS (Or.inl (List.mem_of_getElem? (i := 1) rfl)) (allS (Or.inl (List.mem_of_getElem? (i := 2) rfl)) (allS (Or.inl (List.mem_of_getElem? (i := 3) rfl)) (allS (Or.inl (List.mem_of_getElem? (i := 4) rfl)) (allS (Or.inl (List.mem_of_getElem? (i := 5) rfl)) (allS (Or.inl (List.mem_of_getElem? (i := 6) rfl)) (allS (Or.inl (List.mem_of_getElem? (i := 7) rfl)) (allS (Or.inl (List.mem_of_getElem? (i := 8) rfl)) all0)))))))))
  have Gk12 := hG.keep K12 (own_djs dj)
  obtain ⟨T13, X13, e13, st13⟩ := getF X12 hx hZ hown (host := "") (Or.inl (hw _ (own_w 107 rfl))) Via.refl e12 Gk12.Fbf (g := (mkF m 248 #[rv a0, s1, s2, s3, s4, rv b0, iv (-1 : Int32), iv (own_n q), iv yv, iv (own_n sz), x10, x11, x12, x13] [(.ref b0), (.ref a0)])) rfl rfl (hb hby d9_248)
  obtain ⟨kc14, cl14, Ar14, qk14, Sz14, Ng14, Hs14, Gs14⟩ := id Gk12.Abf
  have hin14 : ¬ ((own_n q) < 0 ∨ cl14.slots.size ≤ ((own_n q)).toNatClampNeg) := own_inb (n := 16) (k := q) Sz14 (by decide) (by omega)
  have hat14 : cl14.slots[((own_n q)).toNatClampNeg]? = some (.int (own_n f)) := own_at (n := 16) (k := q) (g := Ff) Hs14 Sz14 (by decide) (by omega) hFf
  obtain ⟨T15, X15, e15, st15⟩ := getF X13 hx hZ hown (host := "") (Or.inl (hw _ (own_w 112 rfl))) Via.refl e13 Gk12.Fbg (g := (mkF m 256 #[rv a0, s1, s2, s3, s4, rv b0, iv (-1 : Int32), iv (own_n q), iv yv, iv (own_n sz), x10, x11, x12, x13] [(.ref b0), (.int (own_n f)), (.ref a0)])) rfl rfl (hb hby d9_256)
  obtain ⟨kc16, cl16, Ar16, qk16, Sz16, Ng16, Hs16, Gs16⟩ := id Gk12.Abg
  have hin16 : ¬ ((own_n q) < 0 ∨ cl16.slots.size ≤ ((own_n q)).toNatClampNeg) := own_inb (n := 16) (k := q) Sz16 (by decide) (by omega)
  have hat16 : cl16.slots[((own_n q)).toNatClampNeg]? = some (.int (own_n g)) := own_at (n := 16) (k := q) (g := Fg) Hs16 Sz16 (by decide) (by omega) hFg
  obtain ⟨T17, X17, e17, st17⟩ := getF X15 hx hZ hown (host := "") (Or.inl (hw _ (own_w 113 rfl))) Via.refl e15 Gk12.Fbh (g := (mkF m 264 #[rv a0, s1, s2, s3, s4, rv b0, iv (-1 : Int32), iv (own_n q), iv yv, iv (own_n sz), x10, x11, x12, x13] [(.ref b0), (.int (own_n g)), (.int (own_n f)), (.ref a0)])) rfl rfl (hb hby d9_264)
  obtain ⟨kc18, cl18, Ar18, qk18, Sz18, Ng18, Hs18, Gs18⟩ := id Gk12.Abh
  have hin18 : ¬ ((own_n q) < 0 ∨ cl18.slots.size ≤ ((own_n q)).toNatClampNeg) := own_inb (n := 16) (k := q) Sz18 (by decide) (by omega)
  have hat18 : cl18.slots[((own_n q)).toNatClampNeg]? = some (.int (own_n gz)) := own_at (n := 16) (k := q) (g := Fh) Hs18 Sz18 (by decide) (by omega) hFh
  obtain ⟨_, T19, Lc19, X19, hQ19, st19⟩ := own_private (W := 0) (y := mN11) X17 hx hZ hown (hw _ (own_w 120 rfl)) (hw _ (own_w 4 rfl)) (hw _ (own_w 122 rfl)) (hw _ (own_w 121 rfl)) (hw _ (own_w 123 rfl)) (hw _ (own_w 5 rfl)) (by decide) (rmRem l Z av0 hw [] a0 av al ah au qa qb qc qd (own_up vr sz yv) (own_up lw sz (own_n li)) (own_up hg sz (own_n gi)) (own_up uq k12 (own_n sz)) c1 c2 c3 c4 (sz + 1) (own_n f) (own_n g) (own_n gz) (own_n sz) T12.heap n0 Zk12 D12 hS) (by decide) (by decide) D12.E (g := (mkF m 272 #[rv a0, s1, s2, s3, s4, rv b0, iv (-1 : Int32), iv (own_n q), iv yv, iv (own_n sz), x10, x11, x12, x13] [(.int (own_n sz)), (.int (own_n gz)), (.int (own_n g)), (.int (own_n f)), (.ref a0)])) rfl (by rw [hml]; rfl) (argsL := [(.int (own_n f)), (.int (own_n g)), (.int (own_n gz)), (.int (own_n sz))]) (rest := []) (lenOf pd__IIII_V rfl) rfl (hb hby d9_272) rfl e17 (by decide : 7 + 0 ≤ _) (by decide : 103 + 0 ≤ _)
  obtain ⟨rfl, N19q, K19, D19⟩ := hQ19
  have N19 := Fr.app N12 N19q
  have e19 : T19.heap = T19.heap := rfl
  have Zk19 : n0 ≤ T19.heap.size := Nat.le_trans Zk12 K19.1
  have Kk19 : Keep h0 T19.heap [a0, av, al, ah, au, qa, qb, qc, qd, b0, bf, bg, bh, bv, bi, bl] := Kk12.trans K19 (allS (Or.inl (List.mem_of_getElem? (i := 0) rfl)) (allS (Or.inl (List.mem_of_getElem? (i := 1) rfl)) (allS (Or.inl (List.mem_of_getElem? (i := 2) rfl)) (allS (Or.inl (List.mem_of_getElem? (i := 3) rfl)) (allS (Or.inl (List.mem_of_getElem? (i := 4) rfl)) (allS (Or.inl (List.mem_of_getElem? (i := 5) rfl)) (allS (Or.inl (List.mem_of_getElem? (i := 6) rfl)) (allS (Or.inl (List.mem_of_getElem? (i := 7) rfl)) (allS (Or.inl (List.mem_of_getElem? (i := 8) rfl)) all0)))))))))
  have Gk19 := Gk12.keep K19 (own_djs dj)
  obtain ⟨T20, X20, e20, st20⟩ := getF X19 hx hZ hown (host := "") (Or.inl (hw _ (own_w 104 rfl))) Via.refl e19 Gk19.Fs (g := (mkF m 278 #[rv a0, s1, s2, s3, s4, rv b0, iv (-1 : Int32), iv (own_n q), iv yv, iv (own_n sz), x10, x11, x12, x13] [(.ref b0), (.ref b0)])) rfl rfl (hb hby d9_278)
  obtain ⟨T21, h21, X21, e21, W21, st21⟩ := putF X20 hx hZ hown (host := "") (Or.inl (hw _ (own_w 104 rfl))) Via.refl e20 Gk19.Fs Gk19.E (Or.inl (hw _ (own_w 103 rfl))) (hw _ (own_w 71 rfl)) (ty := .int) (by decide) rfl rfl (g := (mkF m 283 #[rv a0, s1, s2, s3, s4, rv b0, iv (-1 : Int32), iv (own_n q), iv yv, iv (own_n sz), x10, x11, x12, x13] [(.int (own_n q)), (.ref b0)])) rfl rfl (hb hby d9_283)
  have N21 := Fr.snoc X21 N19 (hSG.ge _ (List.mem_of_getElem? (i := 0) rfl))
  have Z21 : n0 ≤ h21.size := Nat.le_trans Zk19 (Nat.le_of_eq W21.size.symm)
  have K21 : Keep h0 h21 [a0, av, al, ah, au, qa, qb, qc, qd, b0, bf, bg, bh, bv, bi, bl] := Kk19.wr W21 (Or.inl (List.mem_of_getElem? (i := 9) rfl))
  have Fw21 := Gk19.Fs.same W21
  have S22 : ∀ tz, oS p e below T21 (mkF m 286 #[rv a0, s1, s2, s3, s4, rv b0, iv (-1 : Int32), iv (own_n q), iv yv, iv (own_n sz), x10, x11, x12, x13] []) tz → oS p e below T0 (mkF m 45 #[rv a0, s1, s2, s3, s4, rv b0, iv (-1 : Int32), x7, x8, x9, x10, x11, x12, x13] []) tz := fun tz kz => id (by
    show oS p e below T0 (mkF m 45 #[rv a0, s1, s2, s3, s4, rv b0, iv (-1 : Int32), x7, x8, x9, x10, x11, x12, x13] []) _
    refine XS.iload X0.here hx rfl (hb hby d9_45) rfl ?_
    refine XT.iconstV X0.here hx rfl (-1 : Int32) (hb hby d9_47) (by decide) ?_
    refine XS.icmpNo X0.here hx rfl (hb hby d9_48) rfl (XT.ii_ne_f (by decide)) ?_
    refine XS.aload X0.here hx rfl (hb hby d9_51) rfl rfl ?_
    refine st1 _ ?_
    refine XT.iconstV X1.here hx rfl (1 : Int32) (hb hby d9_56) (by decide) ?_
    refine XS.isub X1.here hx rfl (hb hby d9_57) rfl ?_
    show oS p e below T1 (mkF m 58 #[rv a0, s1, s2, s3, s4, rv b0, iv (-1 : Int32), x7, x8, x9, x10, x11, x12, x13] [(.int ((own_n (q + 1)) - (1 : Int32)))]) _
    rw [own_nsub (by omega)]
    show oS p e below T1 (mkF m 58 #[rv a0, s1, s2, s3, s4, rv b0, iv (-1 : Int32), x7, x8, x9, x10, x11, x12, x13] [(.int (own_n q))]) _
    refine XS.istore X1.here hx rfl (hb hby d9_58) rfl (l' := #[rv a0, s1, s2, s3, s4, rv b0, iv (-1 : Int32), iv (own_n q), x8, x9, x10, x11, x12, x13]) (by rcases hx7 with z | ⟨y, z⟩ <;> subst z <;> rfl) ?_
    refine XS.aload X1.here hx rfl (hb hby d9_60) rfl rfl ?_
    show oS p e below T1 (mkF m 62 #[rv a0, s1, s2, s3, s4, rv b0, iv (-1 : Int32), iv (own_n q), x8, x9, x10, x11, x12, x13] [(.ref b0)]) _
    refine st2 _ ?_
    refine XS.iload X2.here hx rfl (hb hby d9_65) rfl ?_
    refine X2.iaload hx (j := (own_n q)) (v := (.int yv)) (by rw [e2]; exact Ar3.1) (State.isArrayOf_alike hZ.alike Ar3.2.1) Ar3.2.2 hin3 hat3 (g := (mkF m 67 #[rv a0, s1, s2, s3, s4, rv b0, iv (-1 : Int32), iv (own_n q), x8, x9, x10, x11, x12, x13] [(.int (own_n q)), (.ref bv)])) rfl rfl (hb hby d9_67) _ ?_
    refine XS.istore X2.here hx rfl (hb hby d9_68) rfl (l' := #[rv a0, s1, s2, s3, s4, rv b0, iv (-1 : Int32), iv (own_n q), iv yv, x9, x10, x11, x12, x13]) (by rcases hx8 with z | ⟨y, z⟩ <;> subst z <;> rfl) ?_
    refine XS.aload X2.here hx rfl (hb hby d9_70) rfl rfl ?_
    refine st4 _ ?_
    refine XS.iload X4.here hx rfl (hb hby d9_75) rfl ?_
    refine X4.iaload hx (j := (own_n q)) (v := (.int (own_n gi))) (by rw [e4]; exact Ar5.1) (State.isArrayOf_alike hZ.alike Ar5.2.1) Ar5.2.2 hin5 hat5 (g := (mkF m 77 #[rv a0, s1, s2, s3, s4, rv b0, iv (-1 : Int32), iv (own_n q), iv yv, x9, x10, x11, x12, x13] [(.int (own_n q)), (.ref bi)])) rfl rfl (hb hby d9_77) _ ?_
    refine XT.iconstV X4.here hx rfl (-1 : Int32) (hb hby d9_78) (by decide) ?_
    refine XS.icmpNo X4.here hx rfl (hb hby d9_79) rfl (XT.ii_eq_f (own_nm (by omega))) ?_
    show oS p e below T4 (mkF m 82 #[rv a0, s1, s2, s3, s4, rv b0, iv (-1 : Int32), iv (own_n q), iv yv, x9, x10, x11, x12, x13] []) _
    refine XS.aload X4.here hx rfl (hb hby d9_82) rfl rfl ?_
    refine st6 _ ?_
    refine XS.iload X6.here hx rfl (hb hby d9_87) rfl ?_
    refine X6.iaload hx (j := (own_n q)) (v := (.int (own_n li))) (by rw [e6]; exact Ar7.1) (State.isArrayOf_alike hZ.alike Ar7.2.1) Ar7.2.2 hin7 hat7 (g := (mkF m 89 #[rv a0, s1, s2, s3, s4, rv b0, iv (-1 : Int32), iv (own_n q), iv yv, x9, x10, x11, x12, x13] [(.int (own_n q)), (.ref bl)])) rfl rfl (hb hby d9_89) _ ?_
    refine XT.iconstV X6.here hx rfl (-1 : Int32) (hb hby d9_90) (by decide) ?_
    refine XS.icmpYes X6.here hx rfl (pc0 := 91) (pc' := 221) rfl (hb hby d9_91) rfl (XT.ii_ne_t (own_nm (by omega))) (by decide) (by decide) ?_
    refine XS.aloadN X6.here hx rfl (hb hby d9_221) rfl rfl ?_
    refine XS.iload X6.here hx rfl (hb hby d9_222) rfl ?_
    refine XS.aload X6.here hx rfl (hb hby d9_224) rfl rfl ?_
    refine st8 _ ?_
    show oS p e below T8 (mkF m 229 #[rv a0, s1, s2, s3, s4, rv b0, iv (-1 : Int32), iv (own_n q), iv yv, x9, x10, x11, x12, x13] [(.ref bl), (.int yv), (.ref a0)]) _
    refine XS.iload X8.here hx rfl (hb hby d9_229) rfl ?_
    refine X8.iaload hx (j := (own_n q)) (v := (.int (own_n li))) (by rw [e8]; exact Ar9.1) (State.isArrayOf_alike hZ.alike Ar9.2.1) Ar9.2.2 hin9 hat9 (g := (mkF m 231 #[rv a0, s1, s2, s3, s4, rv b0, iv (-1 : Int32), iv (own_n q), iv yv, x9, x10, x11, x12, x13] [(.int (own_n q)), (.ref bl), (.int yv), (.ref a0)])) rfl rfl (hb hby d9_231) _ ?_
    refine XS.aload X8.here hx rfl (hb hby d9_232) rfl rfl ?_
    refine st10 _ ?_
    refine XS.iload X10.here hx rfl (hb hby d9_237) rfl ?_
    refine X10.iaload hx (j := (own_n q)) (v := (.int (own_n gi))) (by rw [e10]; exact Ar11.1) (State.isArrayOf_alike hZ.alike Ar11.2.1) Ar11.2.2 hin11 hat11 (g := (mkF m 239 #[rv a0, s1, s2, s3, s4, rv b0, iv (-1 : Int32), iv (own_n q), iv yv, x9, x10, x11, x12, x13] [(.int (own_n q)), (.ref bi), (.int (own_n li)), (.int yv), (.ref a0)])) rfl rfl (hb hby d9_239) _ ?_
    refine st12 _ ?_
    refine XS.istore X12.here hx rfl (hb hby d9_243) rfl (l' := #[rv a0, s1, s2, s3, s4, rv b0, iv (-1 : Int32), iv (own_n q), iv yv, iv (own_n sz), x10, x11, x12, x13]) (by rcases hx9 with z | ⟨y, z⟩ <;> subst z <;> rfl) ?_
    refine XS.aloadN X12.here hx rfl (hb hby d9_245) rfl rfl ?_
    refine XS.aload X12.here hx rfl (hb hby d9_246) rfl rfl ?_
    show oS p e below T12 (mkF m 248 #[rv a0, s1, s2, s3, s4, rv b0, iv (-1 : Int32), iv (own_n q), iv yv, iv (own_n sz), x10, x11, x12, x13] [(.ref b0), (.ref a0)]) _
    refine st13 _ ?_
    refine XS.iload X13.here hx rfl (hb hby d9_251) rfl ?_
    refine X13.iaload hx (j := (own_n q)) (v := (.int (own_n f))) (by rw [e13]; exact Ar14.1) (State.isArrayOf_alike hZ.alike Ar14.2.1) Ar14.2.2 hin14 hat14 (g := (mkF m 253 #[rv a0, s1, s2, s3, s4, rv b0, iv (-1 : Int32), iv (own_n q), iv yv, iv (own_n sz), x10, x11, x12, x13] [(.int (own_n q)), (.ref bf), (.ref a0)])) rfl rfl (hb hby d9_253) _ ?_
    refine XS.aload X13.here hx rfl (hb hby d9_254) rfl rfl ?_
    refine st15 _ ?_
    refine XS.iload X15.here hx rfl (hb hby d9_259) rfl ?_
    refine X15.iaload hx (j := (own_n q)) (v := (.int (own_n g))) (by rw [e15]; exact Ar16.1) (State.isArrayOf_alike hZ.alike Ar16.2.1) Ar16.2.2 hin16 hat16 (g := (mkF m 261 #[rv a0, s1, s2, s3, s4, rv b0, iv (-1 : Int32), iv (own_n q), iv yv, iv (own_n sz), x10, x11, x12, x13] [(.int (own_n q)), (.ref bg), (.int (own_n f)), (.ref a0)])) rfl rfl (hb hby d9_261) _ ?_
    refine XS.aload X15.here hx rfl (hb hby d9_262) rfl rfl ?_
    refine st17 _ ?_
    refine XS.iload X17.here hx rfl (hb hby d9_267) rfl ?_
    show oS p e below T17 (mkF m 269 #[rv a0, s1, s2, s3, s4, rv b0, iv (-1 : Int32), iv (own_n q), iv yv, iv (own_n sz), x10, x11, x12, x13] [(.int (own_n q)), (.ref bh), (.int (own_n g)), (.int (own_n f)), (.ref a0)]) _
    refine X17.iaload hx (j := (own_n q)) (v := (.int (own_n gz))) (by rw [e17]; exact Ar18.1) (State.isArrayOf_alike hZ.alike Ar18.2.1) Ar18.2.2 hin18 hat18 (g := (mkF m 269 #[rv a0, s1, s2, s3, s4, rv b0, iv (-1 : Int32), iv (own_n q), iv yv, iv (own_n sz), x10, x11, x12, x13] [(.int (own_n q)), (.ref bh), (.int (own_n g)), (.int (own_n f)), (.ref a0)])) rfl rfl (hb hby d9_269) _ ?_
    refine XS.iload X17.here hx rfl (hb hby d9_270) rfl ?_
    refine st19 _ ?_
    refine XS.aload X19.here hx rfl (hb hby d9_275) rfl rfl ?_
    refine XS.dup X19.here hx rfl (hb hby d9_277) rfl rfl ?_
    refine st20 _ ?_
    refine XT.iconstV X20.here hx rfl (1 : Int32) (hb hby d9_281) (by decide) ?_
    refine XS.isub X20.here hx rfl (hb hby d9_282) rfl ?_
    show oS p e below T20 (mkF m 283 #[rv a0, s1, s2, s3, s4, rv b0, iv (-1 : Int32), iv (own_n q), iv yv, iv (own_n sz), x10, x11, x12, x13] [(.int ((own_n (q + 1)) - (1 : Int32))), (.ref b0)]) _
    rw [own_nsub (by omega)]
    show oS p e below T20 (mkF m 283 #[rv a0, s1, s2, s3, s4, rv b0, iv (-1 : Int32), iv (own_n q), iv yv, iv (own_n sz), x10, x11, x12, x13] [(.int (own_n q)), (.ref b0)]) _
    refine st21 _ ?_
    show oS p e below T21 (mkF m 286 #[rv a0, s1, s2, s3, s4, rv b0, iv (-1 : Int32), iv (own_n q), iv yv, iv (own_n sz), x10, x11, x12, x13] []) _
    exact kz)
  have D23 := (D19.keep (Keep.of_wr W21) (own_dj1 dj))
  have f24 := (Gk19.E.wr W21)
  have f25 := (Gk19.Fbf.other W21 (Or.inr (slot_ne (Or.inl (hw _ (own_w 78 rfl))) (Or.inl (hw _ (own_w 103 rfl))) (by decide) (t := (.array .int)) (t' := .int) (by decide) (by decide))))
  have f26 := (Gk19.Fbg.other W21 (Or.inr (slot_ne (Or.inl (hw _ (own_w 80 rfl))) (Or.inl (hw _ (own_w 103 rfl))) (by decide) (t := (.array .int)) (t' := .int) (by decide) (by decide))))
  have f27 := (Gk19.Fbh.other W21 (Or.inr (slot_ne (Or.inl (hw _ (own_w 82 rfl))) (Or.inl (hw _ (own_w 103 rfl))) (by decide) (t := (.array .int)) (t' := .int) (by decide) (by decide))))
  have f28 := (Gk19.Fbv.other W21 (Or.inr (slot_ne (Or.inl (hw _ (own_w 84 rfl))) (Or.inl (hw _ (own_w 103 rfl))) (by decide) (t := (.array .int)) (t' := .int) (by decide) (by decide))))
  have f29 := (Gk19.Fbi.other W21 (Or.inr (slot_ne (Or.inl (hw _ (own_w 86 rfl))) (Or.inl (hw _ (own_w 103 rfl))) (by decide) (t := (.array .int)) (t' := .int) (by decide) (by decide))))
  have f30 := (Gk19.Fbl.other W21 (Or.inr (slot_ne (Or.inl (hw _ (own_w 88 rfl))) (Or.inl (hw _ (own_w 103 rfl))) (by decide) (t := (.array .int)) (t' := .int) (by decide) (by decide))))
  have f31 := (Gk19.Abf.other W21 (Ne.symm (own_nd hSG.nd 0 1 (by decide) rfl rfl)))
  have f32 := (Gk19.Abg.other W21 (Ne.symm (own_nd hSG.nd 0 2 (by decide) rfl rfl)))
  have f33 := (Gk19.Abh.other W21 (Ne.symm (own_nd hSG.nd 0 3 (by decide) rfl rfl)))
  have f34 := (Gk19.Abv.other W21 (Ne.symm (own_nd hSG.nd 0 4 (by decide) rfl rfl)))
  have f35 := (Gk19.Abi.other W21 (Ne.symm (own_nd hSG.nd 0 5 (by decide) rfl rfl)))
  have f36 := (Gk19.Abl.other W21 (Ne.symm (own_nd hSG.nd 0 6 (by decide) rfl rfl)))
  have G37 : own_Frm Z h21 b0 bf bg bh bv bi bl Ff Fg Fh Fv Fi Fl q := own_Frm.mk f24 f25 f26 f27 f28 f29 f30 Fw21 f31 f32 f33 f34 f35 f36
  exact ⟨T21, _, _, X21, e21, N21, ⟨k12, hk12, U12, K21, D23, G37⟩, fun tz kz => S22 tz kz⟩
theorem d9_286 : decode prog_72_method_3_code 286 = .ok (.aload 5, 2) := by decide +kernel
theorem d9_288 : decode prog_72_method_3_code 288 = .ok (.getfield 71, 3) := by decide +kernel
theorem d9_291 : decode prog_72_method_3_code 291 = .ok (.ifCond .ne 10, 3) := by decide +kernel
theorem d9_301 : decode prog_72_method_3_code 301 = .ok (.aload 5, 2) := by decide +kernel
theorem d9_303 : decode prog_72_method_3_code 303 = .ok (.aload 5, 2) := by decide +kernel
theorem d9_305 : decode prog_72_method_3_code 305 = .ok (.getfield 71, 3) := by decide +kernel
theorem d9_308 : decode prog_72_method_3_code 308 = .ok (.iconst 1, 1) := by decide +kernel
theorem d9_309 : decode prog_72_method_3_code 309 = .ok (.isub, 1) := by decide +kernel
theorem d9_310 : decode prog_72_method_3_code 310 = .ok (.iload 9, 2) := by decide +kernel
theorem d9_312 : decode prog_72_method_3_code 312 = .ok (.invokevirtual 90, 3) := by decide +kernel
set_option maxRecDepth 65536 in
set_option maxHeartbeats 40000000 in
theorem own_S1 {p : Program} {l : Launch} {e : Env} {s : State} {m : MethodId} {args : Array Value} {below : List Frame} {meth : Method} {c : Code} {T0 : State} {locs : List Loc} {Z : State} {av0 : Array Value} {h0 : Heap} {n0 : Nat} (a0 : Addr) (av : Addr) (al : Addr) (ah : Addr) (au : Addr) (qa : Addr) (qb : Addr) (qc : Addr) (qd : Addr) (vr : Nat → Int32) (lw : Nat → Int32) (hg : Nat → Int32) (uq : Nat → Int32) (c1 : Nat → Int32) (c2 : Nat → Int32) (c3 : Nat → Int32) (c4 : Nat → Int32) (sz : Nat) (b0 : Addr) (bf : Addr) (bg : Addr) (bh : Addr) (bv : Addr) (bi : Addr) (bl : Addr) (Ff : Nat → Int32) (Fg : Nat → Int32) (Fh : Nat → Int32) (Fv : Nat → Int32) (Fi : Nat → Int32) (Fl : Nat → Int32) (q : Nat) (nb : Nat) (s1 : Slot) (s2 : Slot) (s3 : Slot) (s4 : Slot) (x7 : Slot) (x8 : Slot) (x10 : Slot) (x11 : Slot) (x12 : Slot) (x13 : Slot) (X0 : Stand p l e ({ frames := 3, cells := 7, slots := 103, locals := 48 } : Room) s m args below meth c T0 locs 7 103) (hx : p.tables.exec = Jvm.exec) (hZ : Z.Warmed39 s.vm) (hw : ∀ d ∈ tables_1, d.before av0 Z = true) (hby : c.code = prog_72_method_3_code) (hml : c.maxLocals = 14) (hown : s.vm.findClass mN15.cls = some m.cls) (e0 : T0.heap = h0) (N0 : Fr n0 locs) (Z0 : n0 ≤ h0.size) (hD : own_Dia Z h0 a0 av al ah au qa qb qc qd vr lw hg uq c1 c2 c3 c4 sz) (hG : own_Frm Z h0 b0 bf bg bh bv bi bl Ff Fg Fh Fv Fi Fl (q + 1)) (hS : own_Sep n0 [a0, av, al, ah, au, qa, qb, qc, qd]) (hSG : own_Sep n0 [b0, bf, bg, bh, bv, bi, bl]) (dj : ∀ y ∈ [a0, av, al, ah, au, qa, qb, qc, qd], y ∉ [b0, bf, bg, bh, bv, bi, bl]) (hq : q < 14) (hi : Fi q = -1) :
    ∃ (T' : State) (h' : Heap) (locs' : List Loc), Stand p l e ({ frames := 3, cells := 7, slots := 103, locals := 48 } : Room) s m args below meth c T' locs' 7 103 ∧ T'.heap = h' ∧ Fr n0 locs' ∧ Keep h0 h' [a0, av, al, ah, au, qa, qb, qc, qd, b0, bf, bg, bh, bv, bi, bl] ∧ own_Dia Z h' a0 av al ah au qa qb qc qd vr lw hg uq c1 c2 c3 c4 sz ∧ own_Frm Z h' b0 bf bg bh bv bi bl Ff Fg Fh Fv (own_up Fi q (own_n nb)) Fl (q + 1) ∧ ∀ tz, oS p e below T' (mkF m 45 #[rv a0, s1, s2, s3, s4, rv b0, iv (-1 : Int32), x7, x8, iv (own_n nb), x10, x11, x12, x13] []) tz → oS p e below T0 (mkF m 286 #[rv a0, s1, s2, s3, s4, rv b0, iv (-1 : Int32), x7, x8, iv (own_n nb), x10, x11, x12, x13] []) tz := by
  obtain ⟨T1, X1, e1, st1⟩ := getF X0 hx hZ hown (host := "") (Or.inl (hw _ (own_w 104 rfl))) Via.refl e0 hG.Fs (g := (mkF m 288 #[rv a0, s1, s2, s3, s4, rv b0, iv (-1 : Int32), x7, x8, iv (own_n nb), x10, x11, x12, x13] [(.ref b0)])) rfl rfl (hb hby d9_288)
  obtain ⟨T2, X2, e2, st2⟩ := getF X1 hx hZ hown (host := "") (Or.inl (hw _ (own_w 104 rfl))) Via.refl e1 hG.Fs (g := (mkF m 305 #[rv a0, s1, s2, s3, s4, rv b0, iv (-1 : Int32), x7, x8, iv (own_n nb), x10, x11, x12, x13] [(.ref b0), (.ref b0)])) rfl rfl (hb hby d9_305)
  obtain ⟨_, T3, Lc3, X3, hQ3, st3⟩ := own_virtual (W := 0) (y := mN14) (z := mN14) X2 hx hZ hown (hw _ (own_w 114 rfl)) (hw _ (own_w 115 rfl)) (notFace_of_selects (args := #[]) (mvT hZ (hw _ (own_w 117 rfl)))) (hw _ (own_w 117 rfl)) (hw _ (own_w 116 rfl)) (hw _ (own_w 118 rfl)) (hw _ (own_w 72 rfl)) (by decide) (rmSetH l Z av0 hw [] b0 bf bg bh bv bi bl Ff Fg Fh Fv Fi Fl (q + 1) q (own_n nb) h0 n0 Z0 hG hSG (by omega) hi) (by decide) (by decide) hG.E (g := (mkF m 312 #[rv a0, s1, s2, s3, s4, rv b0, iv (-1 : Int32), x7, x8, iv (own_n nb), x10, x11, x12, x13] [(.int (own_n nb)), (.int (own_n q)), (.ref b0)])) rfl (by rw [hml]; rfl) (argsL := [(.int (own_n q)), (.int (own_n nb))]) (rest := []) (lenOf pd__II_V rfl) rfl (hb hby d9_312) rfl e2 (by decide : 7 + 0 ≤ _) (by decide : 103 + 0 ≤ _)
  obtain ⟨rfl, N3q, K3, G3⟩ := hQ3
  have N3 := Fr.app N0 N3q
  have e3 : T3.heap = T3.heap := rfl
  have Zk3 : n0 ≤ T3.heap.size := Nat.le_trans Z0 K3.1
  have Kk3 : Keep h0 T3.heap [a0, av, al, ah, au, qa, qb, qc, qd, b0, bf, bg, bh, bv, bi, bl] := (Keep.refl h0 [a0, av, al, ah, au, qa, qb, qc, qd, b0, bf, bg, bh, bv, bi, bl]).trans K3 (allS (Or.inl (List.mem_of_getElem? (i := 9) rfl)) (allS (Or.inl (List.mem_of_getElem? (i := 10) rfl)) (allS (Or.inl (List.mem_of_getElem? (i := 11) rfl)) (allS (Or.inl (List.mem_of_getElem? (i := 12) rfl)) (allS (Or.inl (List.mem_of_getElem? (i := 13) rfl)) (allS (Or.inl (List.mem_of_getElem? (i := 14) rfl)) (allS (Or.inl (List.mem_of_getElem? (i := 15) rfl)) all0)))))))
  have Dk3 := hD.keep K3 dj
  have S4 : ∀ tz, oS p e below T3 (mkF m 45 #[rv a0, s1, s2, s3, s4, rv b0, iv (-1 : Int32), x7, x8, iv (own_n nb), x10, x11, x12, x13] []) tz → oS p e below T0 (mkF m 286 #[rv a0, s1, s2, s3, s4, rv b0, iv (-1 : Int32), x7, x8, iv (own_n nb), x10, x11, x12, x13] []) tz := fun tz kz => id (by
    show oS p e below T0 (mkF m 286 #[rv a0, s1, s2, s3, s4, rv b0, iv (-1 : Int32), x7, x8, iv (own_n nb), x10, x11, x12, x13] []) _
    refine XS.aload X0.here hx rfl (hb hby d9_286) rfl rfl ?_
    refine st1 _ ?_
    refine XS.ifYes X1.here hx rfl (pc0 := 291) (pc' := 301) rfl (hb hby d9_291) rfl (XT.i0_ne_t (own_nne (j := 0) (by omega) (by decide) (by omega))) (by decide) (by decide) ?_
    refine XS.aload X1.here hx rfl (hb hby d9_301) rfl rfl ?_
    refine XS.aload X1.here hx rfl (hb hby d9_303) rfl rfl ?_
    refine st2 _ ?_
    refine XT.iconstV X2.here hx rfl (1 : Int32) (hb hby d9_308) (by decide) ?_
    refine XS.isub X2.here hx rfl (hb hby d9_309) rfl ?_
    show oS p e below T2 (mkF m 310 #[rv a0, s1, s2, s3, s4, rv b0, iv (-1 : Int32), x7, x8, iv (own_n nb), x10, x11, x12, x13] [(.int ((own_n (q + 1)) - (1 : Int32))), (.ref b0)]) _
    rw [own_nsub (by omega)]
    show oS p e below T2 (mkF m 310 #[rv a0, s1, s2, s3, s4, rv b0, iv (-1 : Int32), x7, x8, iv (own_n nb), x10, x11, x12, x13] [(.int (own_n q)), (.ref b0)]) _
    refine XS.iload X2.here hx rfl (hb hby d9_310) rfl ?_
    show oS p e below T2 (mkF m 312 #[rv a0, s1, s2, s3, s4, rv b0, iv (-1 : Int32), x7, x8, iv (own_n nb), x10, x11, x12, x13] [(.int (own_n nb)), (.int (own_n q)), (.ref b0)]) _
    refine st3 _ ?_
    refine XS.goto X3.here hx rfl (pc0 := 315) (pc' := 45) rfl (hb hby d9_315) (by decide) (by decide) ?_
    exact kz)
  exact ⟨T3, _, _, X3, e3, N3, Kk3, Dk3, G3, fun tz kz => S4 tz kz⟩
set_option maxRecDepth 65536 in
set_option maxHeartbeats 40000000 in
theorem own_S0 {p : Program} {l : Launch} {e : Env} {s : State} {m : MethodId} {args : Array Value} {below : List Frame} {meth : Method} {c : Code} {T0 : State} {locs : List Loc} {Z : State} {av0 : Array Value} {h0 : Heap} {n0 : Nat} (a0 : Addr) (av : Addr) (al : Addr) (ah : Addr) (au : Addr) (qa : Addr) (qb : Addr) (qc : Addr) (qd : Addr) (vr : Nat → Int32) (lw : Nat → Int32) (hg : Nat → Int32) (uq : Nat → Int32) (c1 : Nat → Int32) (c2 : Nat → Int32) (c3 : Nat → Int32) (c4 : Nat → Int32) (sz : Nat) (b0 : Addr) (bf : Addr) (bg : Addr) (bh : Addr) (bv : Addr) (bi : Addr) (bl : Addr) (Ff : Nat → Int32) (Fg : Nat → Int32) (Fh : Nat → Int32) (Fv : Nat → Int32) (Fi : Nat → Int32) (Fl : Nat → Int32) (q : Nat) (nb : Nat) (s1 : Slot) (s2 : Slot) (s3 : Slot) (s4 : Slot) (x7 : Slot) (x8 : Slot) (x10 : Slot) (x11 : Slot) (x12 : Slot) (x13 : Slot) (X0 : Stand p l e ({ frames := 3, cells := 7, slots := 103, locals := 48 } : Room) s m args below meth c T0 locs 7 103) (hx : p.tables.exec = Jvm.exec) (hZ : Z.Warmed39 s.vm) (hw : ∀ d ∈ tables_1, d.before av0 Z = true) (hby : c.code = prog_72_method_3_code) (hml : c.maxLocals = 14) (hown : s.vm.findClass mN15.cls = some m.cls) (e0 : T0.heap = h0) (N0 : Fr n0 locs) (Z0 : n0 ≤ h0.size) (hD : own_Dia Z h0 a0 av al ah au qa qb qc qd vr lw hg uq c1 c2 c3 c4 sz) (hG : own_Frm Z h0 b0 bf bg bh bv bi bl Ff Fg Fh Fv Fi Fl (q + 1)) (hS : own_Sep n0 [a0, av, al, ah, au, qa, qb, qc, qd]) (hSG : own_Sep n0 [b0, bf, bg, bh, bv, bi, bl]) (dj : ∀ y ∈ [a0, av, al, ah, au, qa, qb, qc, qd], y ∉ [b0, bf, bg, bh, bv, bi, bl]) (hq : q < 14) (hi : ¬ Fi q = -1) :
    ∃ (T' : State) (h' : Heap) (locs' : List Loc), Stand p l e ({ frames := 3, cells := 7, slots := 103, locals := 48 } : Room) s m args below meth c T' locs' 7 103 ∧ T'.heap = h' ∧ Fr n0 locs' ∧ Keep h0 h' [a0, av, al, ah, au, qa, qb, qc, qd, b0, bf, bg, bh, bv, bi, bl] ∧ own_Dia Z h' a0 av al ah au qa qb qc qd vr lw hg uq c1 c2 c3 c4 sz ∧ own_Frm Z h' b0 bf bg bh bv bi bl Ff Fg Fh Fv Fi (own_up Fl q (own_n nb)) (q + 1) ∧ ∀ tz, oS p e below T' (mkF m 45 #[rv a0, s1, s2, s3, s4, rv b0, iv (-1 : Int32), x7, x8, iv (own_n nb), x10, x11, x12, x13] []) tz → oS p e below T0 (mkF m 286 #[rv a0, s1, s2, s3, s4, rv b0, iv (-1 : Int32), x7, x8, iv (own_n nb), x10, x11, x12, x13] []) tz := by
  obtain ⟨T1, X1, e1, st1⟩ := getF X0 hx hZ hown (host := "") (Or.inl (hw _ (own_w 104 rfl))) Via.refl e0 hG.Fs (g := (mkF m 288 #[rv a0, s1, s2, s3, s4, rv b0, iv (-1 : Int32), x7, x8, iv (own_n nb), x10, x11, x12, x13] [(.ref b0)])) rfl rfl (hb hby d9_288)
  obtain ⟨T2, X2, e2, st2⟩ := getF X1 hx hZ hown (host := "") (Or.inl (hw _ (own_w 104 rfl))) Via.refl e1 hG.Fs (g := (mkF m 305 #[rv a0, s1, s2, s3, s4, rv b0, iv (-1 : Int32), x7, x8, iv (own_n nb), x10, x11, x12, x13] [(.ref b0), (.ref b0)])) rfl rfl (hb hby d9_305)
  obtain ⟨_, T3, Lc3, X3, hQ3, st3⟩ := own_virtual (W := 0) (y := mN14) (z := mN14) X2 hx hZ hown (hw _ (own_w 114 rfl)) (hw _ (own_w 115 rfl)) (notFace_of_selects (args := #[]) (mvT hZ (hw _ (own_w 117 rfl)))) (hw _ (own_w 117 rfl)) (hw _ (own_w 116 rfl)) (hw _ (own_w 118 rfl)) (hw _ (own_w 72 rfl)) (by decide) (rmSetL l Z av0 hw [] b0 bf bg bh bv bi bl Ff Fg Fh Fv Fi Fl (q + 1) q (own_n nb) h0 n0 Z0 hG hSG (by omega) hi) (by decide) (by decide) hG.E (g := (mkF m 312 #[rv a0, s1, s2, s3, s4, rv b0, iv (-1 : Int32), x7, x8, iv (own_n nb), x10, x11, x12, x13] [(.int (own_n nb)), (.int (own_n q)), (.ref b0)])) rfl (by rw [hml]; rfl) (argsL := [(.int (own_n q)), (.int (own_n nb))]) (rest := []) (lenOf pd__II_V rfl) rfl (hb hby d9_312) rfl e2 (by decide : 7 + 0 ≤ _) (by decide : 103 + 0 ≤ _)
  obtain ⟨rfl, N3q, K3, G3⟩ := hQ3
  have N3 := Fr.app N0 N3q
  have e3 : T3.heap = T3.heap := rfl
  have Zk3 : n0 ≤ T3.heap.size := Nat.le_trans Z0 K3.1
  have Kk3 : Keep h0 T3.heap [a0, av, al, ah, au, qa, qb, qc, qd, b0, bf, bg, bh, bv, bi, bl] := (Keep.refl h0 [a0, av, al, ah, au, qa, qb, qc, qd, b0, bf, bg, bh, bv, bi, bl]).trans K3 (allS (Or.inl (List.mem_of_getElem? (i := 9) rfl)) (allS (Or.inl (List.mem_of_getElem? (i := 10) rfl)) (allS (Or.inl (List.mem_of_getElem? (i := 11) rfl)) (allS (Or.inl (List.mem_of_getElem? (i := 12) rfl)) (allS (Or.inl (List.mem_of_getElem? (i := 13) rfl)) (allS (Or.inl (List.mem_of_getElem? (i := 14) rfl)) (allS (Or.inl (List.mem_of_getElem? (i := 15) rfl)) all0)))))))
  have Dk3 := hD.keep K3 dj
  have S4 : ∀ tz, oS p e below T3 (mkF m 45 #[rv a0, s1, s2, s3, s4, rv b0, iv (-1 : Int32), x7, x8, iv (own_n nb), x10, x11, x12, x13] []) tz → oS p e below T0 (mkF m 286 #[rv a0, s1, s2, s3, s4, rv b0, iv (-1 : Int32), x7, x8, iv (own_n nb), x10, x11, x12, x13] []) tz := fun tz kz => id (by
    show oS p e below T0 (mkF m 286 #[rv a0, s1, s2, s3, s4, rv b0, iv (-1 : Int32), x7, x8, iv (own_n nb), x10, x11, x12, x13] []) _
    refine XS.aload X0.here hx rfl (hb hby d9_286) rfl rfl ?_
    refine st1 _ ?_
    refine XS.ifYes X1.here hx rfl (pc0 := 291) (pc' := 301) rfl (hb hby d9_291) rfl (XT.i0_ne_t (own_nne (j := 0) (by omega) (by decide) (by omega))) (by decide) (by decide) ?_
    refine XS.aload X1.here hx rfl (hb hby d9_301) rfl rfl ?_
    refine XS.aload X1.here hx rfl (hb hby d9_303) rfl rfl ?_
    refine st2 _ ?_
    refine XT.iconstV X2.here hx rfl (1 : Int32) (hb hby d9_308) (by decide) ?_
    refine XS.isub X2.here hx rfl (hb hby d9_309) rfl ?_
    show oS p e below T2 (mkF m 310 #[rv a0, s1, s2, s3, s4, rv b0, iv (-1 : Int32), x7, x8, iv (own_n nb), x10, x11, x12, x13] [(.int ((own_n (q + 1)) - (1 : Int32))), (.ref b0)]) _
    rw [own_nsub (by omega)]
    show oS p e below T2 (mkF m 310 #[rv a0, s1, s2, s3, s4, rv b0, iv (-1 : Int32), x7, x8, iv (own_n nb), x10, x11, x12, x13] [(.int (own_n q)), (.ref b0)]) _
    refine XS.iload X2.here hx rfl (hb hby d9_310) rfl ?_
    show oS p e below T2 (mkF m 312 #[rv a0, s1, s2, s3, s4, rv b0, iv (-1 : Int32), x7, x8, iv (own_n nb), x10, x11, x12, x13] [(.int (own_n nb)), (.int (own_n q)), (.ref b0)]) _
    refine st3 _ ?_
    refine XS.goto X3.here hx rfl (pc0 := 315) (pc' := 45) rfl (hb hby d9_315) (by decide) (by decide) ?_
    exact kz)
  exact ⟨T3, _, _, X3, e3, N3, Kk3, Dk3, G3, fun tz kz => S4 tz kz⟩
theorem own_coup {vr lw : Nat → Int32} {sz g r : Nat} {yv y z : Int32} (hne : ¬ g = sz) (h : (vr g = yv → lw g = own_n r) ∧ (¬ vr g = yv → g = r)) : (own_up vr sz y g = yv → own_up lw sz z g = own_n r) ∧ (¬ own_up vr sz y g = yv → g = r) := by
  unfold own_up; rw [if_neg hne, if_neg hne]; exact h
theorem own_misup {vr lw hg : Nat → Int32} {sz : Nat} {yv yi y2 y3 z2 z3 : Int32} (h : ∀ n, 2 ≤ n → n < sz → ¬ (vr n = yv ∧ lw n = y2 ∧ hg n = y3)) (hy : ¬ yi = yv) : ∀ n, 2 ≤ n → n < sz + 1 → ¬ (own_up vr sz yi n = yv ∧ own_up lw sz z2 n = y2 ∧ own_up hg sz z3 n = y3) := by
  intro n h2 hn
  unfold own_up
  by_cases q : n = sz
  · rw [if_pos q]; exact fun z => hy z.1
  · rw [if_neg q, if_neg q, if_neg q]; exact h n h2 (by omega)
theorem d9_18 : decode prog_72_method_3_code 18 = .ok (.new 61, 3) := by decide +kernel
theorem d9_21 : decode prog_72_method_3_code 21 = .ok (.dup, 1) := by decide +kernel
theorem d9_22 : decode prog_72_method_3_code 22 = .ok (.invokespecial 63, 3) := by decide +kernel
theorem d9_25 : decode prog_72_method_3_code 25 = .ok (.astore 5, 2) := by decide +kernel
theorem d9_27 : decode prog_72_method_3_code 27 = .ok (.aload 5, 2) := by decide +kernel
theorem d9_29 : decode prog_72_method_3_code 29 = .ok (.iload_n 1, 1) := by decide +kernel
theorem d9_30 : decode prog_72_method_3_code 30 = .ok (.iload_n 2, 1) := by decide +kernel
theorem d9_31 : decode prog_72_method_3_code 31 = .ok (.iload_n 3, 1) := by decide +kernel
theorem d9_32 : decode prog_72_method_3_code 32 = .ok (.aload_n 0, 1) := by decide +kernel
theorem d9_33 : decode prog_72_method_3_code 33 = .ok (.iload_n 1, 1) := by decide +kernel
theorem d9_34 : decode prog_72_method_3_code 34 = .ok (.iload_n 2, 1) := by decide +kernel
theorem d9_35 : decode prog_72_method_3_code 35 = .ok (.iload_n 3, 1) := by decide +kernel
theorem d9_36 : decode prog_72_method_3_code 36 = .ok (.invokevirtual 64, 3) := by decide +kernel
theorem d9_39 : decode prog_72_method_3_code 39 = .ok (.invokevirtual 67, 3) := by decide +kernel
theorem d9_42 : decode prog_72_method_3_code 42 = .ok (.iconst (-1), 1) := by decide +kernel
theorem d9_43 : decode prog_72_method_3_code 43 = .ok (.istore 6, 2) := by decide +kernel
theorem d9_294 : decode prog_72_method_3_code 294 = .ok (.iload 9, 2) := by decide +kernel
theorem d9_296 : decode prog_72_method_3_code 296 = .ok (.istore 6, 2) := by decide +kernel
theorem d9_298 : decode prog_72_method_3_code 298 = .ok (.goto 17, 3) := by decide +kernel
theorem d9_318 : decode prog_72_method_3_code 318 = .ok (.iload 6, 2) := by decide +kernel
theorem d9_320 : decode prog_72_method_3_code 320 = .ok (.ireturn, 1) := by decide +kernel
theorem pd__V : parseMethodDescriptor "()V" = some ⟨[], none⟩ := by decide +kernel
def QrmIteB (Z : State) (a0 : Addr) (av : Addr) (al : Addr) (ah : Addr) (au : Addr) (qa : Addr) (qb : Addr) (qc : Addr) (qd : Addr) (vr : Nat → Int32) (lw : Nat → Int32) (hg : Nat → Int32) (uq : Nat → Int32) (c1 : Nat → Int32) (c2 : Nat → Int32) (c3 : Nat → Int32) (c4 : Nat → Int32) (sz : Nat) (f : Nat) (g : Nat) (gz : Nat) (yv : Int32) (h0 : Heap) (n0 : Nat) (v : Option Value) (h : Heap) (L : List Loc) : Prop := ∃ k : Nat, k < 2048 ∧ v = some (.int (own_n sz)) ∧ Fr n0 L ∧ Keep h0 h [a0, av, al, ah, au, qa, qb, qc, qd] ∧ own_UI (own_up uq k (own_n sz)) (sz + 1) ∧ own_Dia Z h a0 av al ah au qa qb qc qd (own_up vr sz yv) (own_up lw sz (own_n gz)) (own_up hg sz (own_n g)) (own_up uq k (own_n sz)) (own_up c1 (own_cs (own_n f) (own_n g) (own_n gz)) (own_n f)) (own_up c2 (own_cs (own_n f) (own_n g) (own_n gz)) (own_n g)) (own_up c3 (own_cs (own_n f) (own_n g) (own_n gz)) (own_n gz)) (own_up c4 (own_cs (own_n f) (own_n g) (own_n gz)) (own_n sz)) (sz + 1)
set_option maxRecDepth 65536 in
set_option maxHeartbeats 40000000 in
theorem rmIteB (l : Launch) (Z : State) (av0 : Array Value) (hw : ∀ d ∈ tables_1, d.before av0 Z = true) (ws : List Jvm.Cond) (a0 : Addr) (av : Addr) (al : Addr) (ah : Addr) (au : Addr) (qa : Addr) (qb : Addr) (qc : Addr) (qd : Addr) (vr : Nat → Int32) (lw : Nat → Int32) (hg : Nat → Int32) (uq : Nat → Int32) (c1 : Nat → Int32) (c2 : Nat → Int32) (c3 : Nat → Int32) (c4 : Nat → Int32) (sz : Nat) (f : Nat) (g : Nat) (gz : Nat) (yv : Int32) (h0 : Heap) (n0 : Nat) (Z0 : n0 ≤ h0.size) (hD : own_Dia Z h0 a0 av al ah au qa qb qc qd vr lw hg uq c1 c2 c3 c4 sz) (hS : own_Sep n0 [a0, av, al, ah, au, qa, qb, qc, qd]) (hU : own_UI uq sz) (htwo : 2 ≤ sz) (hsz : sz < 900) (hf : f < 1000) (hg' : g < 1000) (hh' : gz < 1000) (htop : own_min (vr f) (own_min (vr g) (vr gz)) = yv) (hf2 : 2 ≤ f) (hgh : ¬ g = gz) (hnt : ¬ (g = 1 ∧ gz = 0)) (hm : ¬ c1 (own_cs (own_n f) (own_n g) (own_n gz)) = own_n f) (hvf : vr f = yv) (hhf : hg f = own_n 1) (hlf : lw f = own_n 0) (hvg : ¬ vr g = yv) (hvh : ¬ vr gz = yv) (hmis : ∀ n, 2 ≤ n → n < sz → ¬ (vr n = yv ∧ lw n = own_n gz ∧ hg n = own_n g)) :
    own_Met l mN15 prog_72_method_3_code 14 (some .int) ws ({ frames := 3, cells := 7, slots := 103, locals := 48 } : Room) #[(.ref a0), (.int (own_n f)), (.int (own_n g)), (.int (own_n gz))] Z h0 (QrmIteB Z a0 av al ah au qa qb qc qd vr lw hg uq c1 c2 c3 c4 sz f g gz yv h0 n0) := by
  refine MetFree.of_bodySF (plainFor_of_name pn_DecisionDiagram) hisR ?_
  intro p e s m args below meth c s₁ Bd hml0 hP hK
  obtain ⟨rfl, hZ, hh⟩ := hP
  have hml : c.maxLocals = 14 := hml0
  obtain ⟨hx, hby, hown, hnm, X0, e0⟩ := own_start Bd hml0 hh
  have N0 := Fr.nil n0
  have pre0 : ∀ tz, oS p e below s₁ (mkF m 0 #[rv a0, iv (own_n f), iv (own_n g), iv (own_n gz), .unset, .unset, .unset, .unset, .unset, .unset, .unset, .unset, .unset, .unset] []) tz → Steps p.tables e below (s₁.setTop (entryFrame m #[(.ref a0), (.int (own_n f)), (.int (own_n g)), (.int (own_n gz))] 14)) tz := fun tz kz => castTop (by first | (simp [entryFrame, mkF, argsToLocals, Value.category]; done) | rfl) kz
  obtain ⟨_, T1, Lc1, X1, hQ1, st1⟩ := own_private (W := 0) (y := mN7) X0 hx hZ hown (hw _ (own_w 62 rfl)) (hw _ (own_w 4 rfl)) (hw _ (own_w 64 rfl)) (hw _ (own_w 63 rfl)) (hw _ (own_w 65 rfl)) (hw _ (own_w 5 rfl)) (by decide) (rmKM l Z av0 hw [] a0 av al ah au qa qb qc qd vr lw hg uq c1 c2 c3 c4 sz (own_n f) (own_n g) (own_n gz) h0 n0 Z0 hD (own_f1 hf hf2) (own_nne (by omega) (by omega) hgh) (own_f0 hf hf2) (own_n10 hg' hh' hnt) hm) (by decide) (by decide) hD.E (g := (mkF m 4 #[rv a0, iv (own_n f), iv (own_n g), iv (own_n gz), .unset, .unset, .unset, .unset, .unset, .unset, .unset, .unset, .unset, .unset] [(.int (own_n gz)), (.int (own_n g)), (.int (own_n f)), (.ref a0)])) rfl (by rw [hml]; rfl) (argsL := [(.int (own_n f)), (.int (own_n g)), (.int (own_n gz))]) (rest := []) (lenOf pd__III_I rfl) rfl (hb hby d9_4) rfl e0 (by decide : 0 + 0 ≤ _) (by decide : 0 + 0 ≤ _)
  obtain ⟨rfl, N1q, hh1⟩ := hQ1
  have N1 := Fr.app N0 N1q
  have e1 : T1.heap = h0 := hh1
  obtain ⟨T2, h2, X2, e2, E2, A2, D2, -, st2⟩ := newO X1 hx hZ hown (hw _ (own_w 70 rfl)) (hw _ (own_w 71 rfl)) (hw _ (own_w 72 rfl)) e1 (g := (mkF m 18 #[rv a0, iv (own_n f), iv (own_n g), iv (own_n gz), iv (-1 : Int32), .unset, .unset, .unset, .unset, .unset, .unset, .unset, .unset, .unset] [])) rfl (hb hby d9_18) (by decide) (by decide)
  obtain ⟨b2, g2⟩ : ∃ z, z = h0.size := ⟨_, rfl⟩
  rw [← g2] at A2 D2 st2
  have ne_a0_b2 : a0 ≠ b2 := Nat.ne_of_lt (Nat.lt_of_lt_of_le hD.E.lt (Nat.le_of_eq g2.symm))
  have ne_ah_b2 : ah ≠ b2 := Nat.ne_of_lt (Nat.lt_of_lt_of_le hD.Aah.lt (Nat.le_of_eq g2.symm))
  have ne_al_b2 : al ≠ b2 := Nat.ne_of_lt (Nat.lt_of_lt_of_le hD.Aal.lt (Nat.le_of_eq g2.symm))
  have ne_au_b2 : au ≠ b2 := Nat.ne_of_lt (Nat.lt_of_lt_of_le hD.Aau.lt (Nat.le_of_eq g2.symm))
  have ne_av_b2 : av ≠ b2 := Nat.ne_of_lt (Nat.lt_of_lt_of_le hD.Aav.lt (Nat.le_of_eq g2.symm))
  have ne_qa_b2 : qa ≠ b2 := Nat.ne_of_lt (Nat.lt_of_lt_of_le hD.Aqa.lt (Nat.le_of_eq g2.symm))
  have ne_qb_b2 : qb ≠ b2 := Nat.ne_of_lt (Nat.lt_of_lt_of_le hD.Aqb.lt (Nat.le_of_eq g2.symm))
  have ne_qc_b2 : qc ≠ b2 := Nat.ne_of_lt (Nat.lt_of_lt_of_le hD.Aqc.lt (Nat.le_of_eq g2.symm))
  have ne_qd_b2 : qd ≠ b2 := Nat.ne_of_lt (Nat.lt_of_lt_of_le hD.Aqd.lt (Nat.le_of_eq g2.symm))
  have ge_b2 : n0 ≤ b2 := Nat.le_trans Z0 (Nat.le_of_eq g2.symm)
  have sz_b2 : h0.size ≤ b2 := Nat.le_of_eq g2.symm
  have Z2 : n0 ≤ h2.size := Nat.le_trans Z0 E2.1
  have K2 : Keep h0 h2 [a0, av, al, ah, au, qa, qb, qc, qd] := (Keep.refl h0 [a0, av, al, ah, au, qa, qb, qc, qd]).ext E2
  have F2_f : Fld Z h2 b2 "com/example/prolong/prolong/tree/DecisionDiagram$Frames" "f" "[I" .null := D2 (Or.inl (hw _ (own_w 78 rfl))) (ty := (.array .int)) (by decide)
  have F2_g : Fld Z h2 b2 "com/example/prolong/prolong/tree/DecisionDiagram$Frames" "g" "[I" .null := D2 (Or.inl (hw _ (own_w 80 rfl))) (ty := (.array .int)) (by decide)
  have F2_h : Fld Z h2 b2 "com/example/prolong/prolong/tree/DecisionDiagram$Frames" "h" "[I" .null := D2 (Or.inl (hw _ (own_w 82 rfl))) (ty := (.array .int)) (by decide)
  have F2_variable : Fld Z h2 b2 "com/example/prolong/prolong/tree/DecisionDiagram$Frames" "variable" "[I" .null := D2 (Or.inl (hw _ (own_w 84 rfl))) (ty := (.array .int)) (by decide)
  have F2_high : Fld Z h2 b2 "com/example/prolong/prolong/tree/DecisionDiagram$Frames" "high" "[I" .null := D2 (Or.inl (hw _ (own_w 86 rfl))) (ty := (.array .int)) (by decide)
  have F2_low : Fld Z h2 b2 "com/example/prolong/prolong/tree/DecisionDiagram$Frames" "low" "[I" .null := D2 (Or.inl (hw _ (own_w 88 rfl))) (ty := (.array .int)) (by decide)
  have F2_depth : Fld Z h2 b2 "com/example/prolong/prolong/tree/DecisionDiagram$Frames" "depth" "I" (.int 0) := D2 (Or.inl (hw _ (own_w 103 rfl))) (ty := .int) (by decide)
  have D3 := (hD.ext E2)
  obtain ⟨_, T4, Lc4, X4, hQ4, st4⟩ := own_initRef (W := 1) (y := mN12) X2 hx hZ rfl hown (hw _ (own_w 73 rfl)) (hw _ (own_w 74 rfl)) (hw _ (own_w 75 rfl)) (hw _ (own_w 72 rfl)) (by decide) (rmFI l Z av0 hw [] b2 h2 n0 Z2 A2 ge_b2 F2_depth F2_f F2_g F2_h F2_variable F2_high F2_low) (by decide) (by decide) (g := (mkF m 22 #[rv a0, iv (own_n f), iv (own_n g), iv (own_n gz), iv (-1 : Int32), .unset, .unset, .unset, .unset, .unset, .unset, .unset, .unset, .unset] [(.ref b2), (.ref b2)])) rfl (by rw [hml]; rfl) (a := b2) (argsL := []) (rest := [(.ref b2)]) (lenOf pd__V rfl) rfl (hb hby d9_22) rfl e2 (by decide : 1 + 6 ≤ _) (by decide : 7 + 96 ≤ _)
  obtain ⟨b4bf, b4bg, b4bh, b4bv, b4bi, b4bl, rfl, N4q, K4, gq4, S4, G4⟩ := hQ4
  have N4 := Fr.app N1 N4q
  have e4 : T4.heap = T4.heap := rfl
  have Dk4 := D3.keep K4 (own_dj hD.lt (allS sz_b2 all0))
  have gz4 : ∀ y ∈ [b2, b4bf, b4bg, b4bh, b4bv, b4bi, b4bl], h0.size ≤ y := allS sz_b2 (fun y q => Nat.le_trans K2.1 (gq4 y q))
  have dj4 : ∀ y ∈ [a0, av, al, ah, au, qa, qb, qc, qd], y ∉ [b2, b4bf, b4bg, b4bh, b4bv, b4bi, b4bl] := own_dj hD.lt gz4
  have Zk4 : n0 ≤ T4.heap.size := Nat.le_trans Z2 K4.1
  have Kk4 : Keep h0 T4.heap [a0, av, al, ah, au, qa, qb, qc, qd] := K2.trans K4 (allS (Or.inr (gz4 _ (List.mem_of_getElem? (i := 0) rfl))) all0)
  obtain ⟨_, T5, Lc5, X5, hQ5, st5⟩ := own_private (W := 4) (y := mN9) X4 hx hZ hown (hw _ (own_w 89 rfl)) (hw _ (own_w 4 rfl)) (hw _ (own_w 91 rfl)) (hw _ (own_w 90 rfl)) (hw _ (own_w 92 rfl)) (hw _ (own_w 5 rfl)) (by decide) (rmTop l Z av0 hw [] a0 av al ah au qa qb qc qd vr lw hg uq c1 c2 c3 c4 sz f g gz T4.heap n0 Zk4 Dk4 hf hg' hh') (by decide) (by decide) Dk4.E (g := (mkF m 36 #[rv a0, iv (own_n f), iv (own_n g), iv (own_n gz), iv (-1 : Int32), rv b2, .unset, .unset, .unset, .unset, .unset, .unset, .unset, .unset] [(.int (own_n gz)), (.int (own_n g)), (.int (own_n f)), (.ref a0), (.int (own_n gz)), (.int (own_n g)), (.int (own_n f)), (.ref b2)])) rfl (by rw [hml]; rfl) (argsL := [(.int (own_n f)), (.int (own_n g)), (.int (own_n gz))]) (rest := [(.int (own_n gz)), (.int (own_n g)), (.int (own_n f)), (.ref b2)]) (lenOf pd__III_I rfl) rfl (hb hby d9_36) rfl e4 (by decide : 7 + 0 ≤ _) (by decide : 103 + 0 ≤ _)
  obtain ⟨rfl, N5q, hh5⟩ := hQ5
  have N5 := Fr.app N4 N5q
  have e5 : T5.heap = T4.heap := hh5
  obtain ⟨_, T6, Lc6, X6, hQ6, st6⟩ := own_virtual (W := 0) (y := mN13) (z := mN13) X5 hx hZ hown (hw _ (own_w 97 rfl)) (hw _ (own_w 98 rfl)) (notFace_of_selects (args := #[]) (mvT hZ (hw _ (own_w 100 rfl)))) (hw _ (own_w 100 rfl)) (hw _ (own_w 99 rfl)) (hw _ (own_w 101 rfl)) (hw _ (own_w 72 rfl)) (by decide) (rmPush l Z av0 hw [] b2 b4bf b4bg b4bh b4bv b4bi b4bl (fun _ => 0) (fun _ => 0) (fun _ => 0) (fun _ => 0) (fun _ => 0) (fun _ => 0) 0 (own_n f) (own_n g) (own_n gz) yv T4.heap n0 Zk4 G4 S4 (by decide)) (by decide) (by decide) G4.E (g := (mkF m 39 #[rv a0, iv (own_n f), iv (own_n g), iv (own_n gz), iv (-1 : Int32), rv b2, .unset, .unset, .unset, .unset, .unset, .unset, .unset, .unset] [(.int yv), (.int (own_n gz)), (.int (own_n g)), (.int (own_n f)), (.ref b2)])) rfl (by rw [hml]; rfl) (argsL := [(.int (own_n f)), (.int (own_n g)), (.int (own_n gz)), (.int yv)]) (rest := []) (lenOf pd__IIII_V rfl) rfl (hb hby d9_39) rfl e5 (by decide : 7 + 0 ≤ _) (by decide : 103 + 0 ≤ _)
  obtain ⟨rfl, N6q, K6, G6⟩ := hQ6
  have N6 := Fr.app N5 N6q
  have e6 : T6.heap = T6.heap := rfl
  have Zk6 : n0 ≤ T6.heap.size := Nat.le_trans Zk4 K6.1
  have Kk6 : Keep h0 T6.heap [a0, av, al, ah, au, qa, qb, qc, qd] := Kk4.trans K6 (allS (Or.inr (gz4 _ (List.mem_of_getElem? (i := 0) rfl))) (allS (Or.inr (gz4 _ (List.mem_of_getElem? (i := 1) rfl))) (allS (Or.inr (gz4 _ (List.mem_of_getElem? (i := 2) rfl))) (allS (Or.inr (gz4 _ (List.mem_of_getElem? (i := 3) rfl))) (allS (Or.inr (gz4 _ (List.mem_of_getElem? (i := 4) rfl))) (allS (Or.inr (gz4 _ (List.mem_of_getElem? (i := 5) rfl))) (allS (Or.inr (gz4 _ (List.mem_of_getElem? (i := 6) rfl))) all0)))))))
  have Dk6 := Dk4.keep K6 dj4
  have S7 : ∀ tz, oS p e below T6 (mkF m 45 #[rv a0, iv (own_n f), iv (own_n g), iv (own_n gz), iv (-1 : Int32), rv b2, iv (-1 : Int32), .unset, .unset, .unset, .unset, .unset, .unset, .unset] []) tz → oS p e below s₁ (mkF m 0 #[rv a0, iv (own_n f), iv (own_n g), iv (own_n gz), .unset, .unset, .unset, .unset, .unset, .unset, .unset, .unset, .unset, .unset] []) tz := fun tz kz => id (by
    show oS p e below s₁ (mkF m 0 #[rv a0, iv (own_n f), iv (own_n g), iv (own_n gz), .unset, .unset, .unset, .unset, .unset, .unset, .unset, .unset, .unset, .unset] []) _
    refine XS.aloadN X0.here hx rfl (hb hby d9_0) rfl rfl ?_
    refine XS.iloadN X0.here hx rfl (hb hby d9_1) rfl ?_
    refine XS.iloadN X0.here hx rfl (hb hby d9_2) rfl ?_
    refine XS.iloadN X0.here hx rfl (hb hby d9_3) rfl ?_
    refine st1 _ ?_
    refine XS.istore X1.here hx rfl (hb hby d9_7) rfl (l' := #[rv a0, iv (own_n f), iv (own_n g), iv (own_n gz), iv (-1 : Int32), .unset, .unset, .unset, .unset, .unset, .unset, .unset, .unset, .unset]) rfl ?_
    refine XS.iload X1.here hx rfl (hb hby d9_9) rfl ?_
    refine XT.iconstV X1.here hx rfl (-1 : Int32) (hb hby d9_11) (by decide) ?_
    refine XS.icmpYes X1.here hx rfl (pc0 := 12) (pc' := 18) rfl (hb hby d9_12) rfl (XT.ii_eq_t (by decide)) (by decide) (by decide) ?_
    refine st2 _ ?_
    show oS p e below T2 (mkF m 21 #[rv a0, iv (own_n f), iv (own_n g), iv (own_n gz), iv (-1 : Int32), .unset, .unset, .unset, .unset, .unset, .unset, .unset, .unset, .unset] [(.ref b2)]) _
    refine XS.dup X2.here hx rfl (hb hby d9_21) rfl rfl ?_
    refine st4 _ ?_
    refine XS.astore X4.here hx rfl (hb hby d9_25) rfl rfl (l' := #[rv a0, iv (own_n f), iv (own_n g), iv (own_n gz), iv (-1 : Int32), rv b2, .unset, .unset, .unset, .unset, .unset, .unset, .unset, .unset]) rfl ?_
    refine XS.aload X4.here hx rfl (hb hby d9_27) rfl rfl ?_
    refine XS.iloadN X4.here hx rfl (hb hby d9_29) rfl ?_
    refine XS.iloadN X4.here hx rfl (hb hby d9_30) rfl ?_
    refine XS.iloadN X4.here hx rfl (hb hby d9_31) rfl ?_
    refine XS.aloadN X4.here hx rfl (hb hby d9_32) rfl rfl ?_
    refine XS.iloadN X4.here hx rfl (hb hby d9_33) rfl ?_
    refine XS.iloadN X4.here hx rfl (hb hby d9_34) rfl ?_
    show oS p e below T4 (mkF m 35 #[rv a0, iv (own_n f), iv (own_n g), iv (own_n gz), iv (-1 : Int32), rv b2, .unset, .unset, .unset, .unset, .unset, .unset, .unset, .unset] [(.int (own_n g)), (.int (own_n f)), (.ref a0), (.int (own_n gz)), (.int (own_n g)), (.int (own_n f)), (.ref b2)]) _
    refine XS.iloadN X4.here hx rfl (hb hby d9_35) rfl ?_
    refine st5 _ ?_
    show oS p e below T5 (mkF m 39 #[rv a0, iv (own_n f), iv (own_n g), iv (own_n gz), iv (-1 : Int32), rv b2, .unset, .unset, .unset, .unset, .unset, .unset, .unset, .unset] [(.int (own_min (vr f) (own_min (vr g) (vr gz)))), (.int (own_n gz)), (.int (own_n g)), (.int (own_n f)), (.ref b2)]) _
    rw [htop]
    show oS p e below T5 (mkF m 39 #[rv a0, iv (own_n f), iv (own_n g), iv (own_n gz), iv (-1 : Int32), rv b2, .unset, .unset, .unset, .unset, .unset, .unset, .unset, .unset] [(.int yv), (.int (own_n gz)), (.int (own_n g)), (.int (own_n f)), (.ref b2)]) _
    refine st6 _ ?_
    refine XT.iconstV X6.here hx rfl (-1 : Int32) (hb hby d9_42) (by decide) ?_
    refine XS.istore X6.here hx rfl (hb hby d9_43) rfl (l' := #[rv a0, iv (own_n f), iv (own_n g), iv (own_n gz), iv (-1 : Int32), rv b2, iv (-1 : Int32), .unset, .unset, .unset, .unset, .unset, .unset, .unset]) rfl ?_
    exact kz)
  obtain ⟨T8, _, l8, X8, rfl, N8, K8, D8, G8, st8⟩ := own_H1 a0 av al ah au qa qb qc qd vr lw hg uq c1 c2 c3 c4 sz b2 b4bf b4bg b4bh b4bv b4bi b4bl (own_up (fun _ => 0) 0 (own_n f)) (own_up (fun _ => 0) 0 (own_n g)) (own_up (fun _ => 0) 0 (own_n gz)) (own_up (fun _ => 0) 0 yv) (own_up (fun _ => 0) 0 (-1 : Int32)) (own_up (fun _ => 0) 0 (-1 : Int32)) 0 f g gz yv (iv (own_n f)) (iv (own_n g)) (iv (own_n gz)) (iv (-1 : Int32)) (.unset) (.unset) (.unset) (.unset) (.unset) (.unset) (.unset) 1 g gz g X6 hx hZ hw hby hml hown e6 N6 Zk6 Dk6 G6 hS S4 dj4 (by decide) (show (own_up (fun _ => 0) 0 (own_n f)) 0 = (own_n f) from by simp [own_up]) (show (own_up (fun _ => 0) 0 (own_n g)) 0 = (own_n g) from by simp [own_up]) (show (own_up (fun _ => 0) 0 (own_n gz)) 0 = (own_n gz) from by simp [own_up]) (show (own_up (fun _ => 0) 0 yv) 0 = yv from by simp [own_up]) hf hg' hh' (Or.inl rfl) (Or.inl rfl) (Or.inl rfl) (Or.inl rfl) (Or.inl rfl) (Or.inl rfl) (Or.inl rfl) (show (own_up (fun _ => 0) 0 (-1 : Int32)) 0 = (-1 : Int32) from by simp [own_up]) ⟨fun _ => hhf, fun q => absurd hvf q⟩ ⟨fun q => absurd q hvg, fun _ => rfl⟩ ⟨fun q => absurd q hvh, fun _ => rfl⟩ (own_kp1 _ _) hg'
  have e8 : T8.heap = T8.heap := rfl
  have Zk8 : n0 ≤ T8.heap.size := Nat.le_trans Zk6 K8.1
  have Kk8 : Keep h0 T8.heap [a0, av, al, ah, au, qa, qb, qc, qd] := Kk6.trans K8 (allS (Or.inl (List.mem_of_getElem? (i := 0) rfl)) (allS (Or.inl (List.mem_of_getElem? (i := 1) rfl)) (allS (Or.inl (List.mem_of_getElem? (i := 2) rfl)) (allS (Or.inl (List.mem_of_getElem? (i := 3) rfl)) (allS (Or.inl (List.mem_of_getElem? (i := 4) rfl)) (allS (Or.inl (List.mem_of_getElem? (i := 5) rfl)) (allS (Or.inl (List.mem_of_getElem? (i := 6) rfl)) (allS (Or.inl (List.mem_of_getElem? (i := 7) rfl)) (allS (Or.inl (List.mem_of_getElem? (i := 8) rfl)) (allS (Or.inr (gz4 _ (List.mem_of_getElem? (i := 0) rfl))) (allS (Or.inr (gz4 _ (List.mem_of_getElem? (i := 1) rfl))) (allS (Or.inr (gz4 _ (List.mem_of_getElem? (i := 2) rfl))) (allS (Or.inr (gz4 _ (List.mem_of_getElem? (i := 3) rfl))) (allS (Or.inr (gz4 _ (List.mem_of_getElem? (i := 4) rfl))) (allS (Or.inr (gz4 _ (List.mem_of_getElem? (i := 5) rfl))) (allS (Or.inr (gz4 _ (List.mem_of_getElem? (i := 6) rfl))) all0))))))))))))))))
  have S9 : ∀ tz, oS p e below T8 (mkF m 45 #[rv a0, iv (own_n f), iv (own_n g), iv (own_n gz), iv (-1 : Int32), rv b2, iv (-1 : Int32), iv 0, iv yv, iv 1, iv 1, iv (own_n g), iv (own_n gz), iv (own_n g)] []) tz → oS p e below s₁ (mkF m 0 #[rv a0, iv (own_n f), iv (own_n g), iv (own_n gz), .unset, .unset, .unset, .unset, .unset, .unset, .unset, .unset, .unset, .unset] []) tz := fun tz kz => S7 tz (by
    show oS p e below T6 (mkF m 45 #[rv a0, iv (own_n f), iv (own_n g), iv (own_n gz), iv (-1 : Int32), rv b2, iv (-1 : Int32), .unset, .unset, .unset, .unset, .unset, .unset, .unset] []) _
    refine st8 _ ?_
    show oS p e below T8 (mkF m 45 #[rv a0, iv (own_n f), iv (own_n g), iv (own_n gz), iv (-1 : Int32), rv b2, iv (-1 : Int32), iv 0, iv yv, iv 1, iv 1, iv (own_n g), iv (own_n gz), iv (own_n g)] []) _
    exact kz)
  obtain ⟨T10, _, l10, X10, rfl, N10, K10, D10, G10, st10⟩ := own_H0 a0 av al ah au qa qb qc qd vr lw hg uq c1 c2 c3 c4 sz b2 b4bf b4bg b4bh b4bv b4bi b4bl (own_up (fun _ => 0) 0 (own_n f)) (own_up (fun _ => 0) 0 (own_n g)) (own_up (fun _ => 0) 0 (own_n gz)) (own_up (fun _ => 0) 0 yv) (own_up (own_up (fun _ => 0) 0 (-1 : Int32)) 0 (own_n g)) (own_up (fun _ => 0) 0 (-1 : Int32)) 0 f g gz yv (iv (own_n f)) (iv (own_n g)) (iv (own_n gz)) (iv (-1 : Int32)) (iv 0) (iv yv) (iv 1) (iv 1) (iv (own_n g)) (iv (own_n gz)) (iv (own_n g)) 0 g gz gz X8 hx hZ hw hby hml hown e8 N8 Zk8 D8 G8 hS S4 dj4 (by decide) (show (own_up (fun _ => 0) 0 (own_n f)) 0 = (own_n f) from by simp [own_up]) (show (own_up (fun _ => 0) 0 (own_n g)) 0 = (own_n g) from by simp [own_up]) (show (own_up (fun _ => 0) 0 (own_n gz)) 0 = (own_n gz) from by simp [own_up]) (show (own_up (fun _ => 0) 0 yv) 0 = yv from by simp [own_up]) hf hg' hh' (Or.inr ⟨_, rfl⟩) (Or.inr ⟨_, rfl⟩) (Or.inr ⟨_, rfl⟩) (Or.inr ⟨_, rfl⟩) (Or.inr ⟨_, rfl⟩) (Or.inr ⟨_, rfl⟩) (Or.inr ⟨_, rfl⟩) (fun z => own_nm (i := g) (by omega) ((show (own_up (own_up (fun _ => 0) 0 (-1 : Int32)) 0 (own_n g)) 0 = (own_n g) from by simp [own_up]).symm.trans z)) (show (own_up (fun _ => 0) 0 (-1 : Int32)) 0 = (-1 : Int32) from by simp [own_up]) ⟨fun _ => hlf, fun q => absurd hvf q⟩ ⟨fun q => absurd q hvg, fun _ => rfl⟩ ⟨fun q => absurd q hvh, fun _ => rfl⟩ (own_kp0 _ _ (own_nne (by omega) (by omega) hgh)) hh'
  have e10 : T10.heap = T10.heap := rfl
  have Zk10 : n0 ≤ T10.heap.size := Nat.le_trans Zk8 K10.1
  have Kk10 : Keep h0 T10.heap [a0, av, al, ah, au, qa, qb, qc, qd] := Kk8.trans K10 (allS (Or.inl (List.mem_of_getElem? (i := 0) rfl)) (allS (Or.inl (List.mem_of_getElem? (i := 1) rfl)) (allS (Or.inl (List.mem_of_getElem? (i := 2) rfl)) (allS (Or.inl (List.mem_of_getElem? (i := 3) rfl)) (allS (Or.inl (List.mem_of_getElem? (i := 4) rfl)) (allS (Or.inl (List.mem_of_getElem? (i := 5) rfl)) (allS (Or.inl (List.mem_of_getElem? (i := 6) rfl)) (allS (Or.inl (List.mem_of_getElem? (i := 7) rfl)) (allS (Or.inl (List.mem_of_getElem? (i := 8) rfl)) (allS (Or.inr (gz4 _ (List.mem_of_getElem? (i := 0) rfl))) (allS (Or.inr (gz4 _ (List.mem_of_getElem? (i := 1) rfl))) (allS (Or.inr (gz4 _ (List.mem_of_getElem? (i := 2) rfl))) (allS (Or.inr (gz4 _ (List.mem_of_getElem? (i := 3) rfl))) (allS (Or.inr (gz4 _ (List.mem_of_getElem? (i := 4) rfl))) (allS (Or.inr (gz4 _ (List.mem_of_getElem? (i := 5) rfl))) (allS (Or.inr (gz4 _ (List.mem_of_getElem? (i := 6) rfl))) all0))))))))))))))))
  have S11 : ∀ tz, oS p e below T10 (mkF m 45 #[rv a0, iv (own_n f), iv (own_n g), iv (own_n gz), iv (-1 : Int32), rv b2, iv (-1 : Int32), iv 0, iv yv, iv 0, iv 0, iv (own_n g), iv (own_n gz), iv (own_n gz)] []) tz → oS p e below s₁ (mkF m 0 #[rv a0, iv (own_n f), iv (own_n g), iv (own_n gz), .unset, .unset, .unset, .unset, .unset, .unset, .unset, .unset, .unset, .unset] []) tz := fun tz kz => S9 tz (by
    show oS p e below T8 (mkF m 45 #[rv a0, iv (own_n f), iv (own_n g), iv (own_n gz), iv (-1 : Int32), rv b2, iv (-1 : Int32), iv 0, iv yv, iv 1, iv 1, iv (own_n g), iv (own_n gz), iv (own_n g)] []) _
    refine st10 _ ?_
    show oS p e below T10 (mkF m 45 #[rv a0, iv (own_n f), iv (own_n g), iv (own_n gz), iv (-1 : Int32), rv b2, iv (-1 : Int32), iv 0, iv yv, iv 0, iv 0, iv (own_n g), iv (own_n gz), iv (own_n gz)] []) _
    exact kz)
  obtain ⟨T12, _, l12, X12, rfl, N12, ⟨k12, hk12, U12, K12, D12, G12⟩, st12⟩ := own_C a0 av al ah au qa qb qc qd vr lw hg uq c1 c2 c3 c4 sz b2 b4bf b4bg b4bh b4bv b4bi b4bl (own_up (fun _ => 0) 0 (own_n f)) (own_up (fun _ => 0) 0 (own_n g)) (own_up (fun _ => 0) 0 (own_n gz)) (own_up (fun _ => 0) 0 yv) (own_up (own_up (fun _ => 0) 0 (-1 : Int32)) 0 (own_n g)) (own_up (own_up (fun _ => 0) 0 (-1 : Int32)) 0 (own_n gz)) 0 f g gz yv (iv (own_n f)) (iv (own_n g)) (iv (own_n gz)) (iv (-1 : Int32)) (iv 0) (iv yv) (iv 0) (iv 0) (iv (own_n g)) (iv (own_n gz)) (iv (own_n gz)) g gz X10 hx hZ hw hby hml hown e10 N10 Zk10 D10 G10 hS S4 dj4 (by decide) (show (own_up (fun _ => 0) 0 (own_n f)) 0 = (own_n f) from by simp [own_up]) (show (own_up (fun _ => 0) 0 (own_n g)) 0 = (own_n g) from by simp [own_up]) (show (own_up (fun _ => 0) 0 (own_n gz)) 0 = (own_n gz) from by simp [own_up]) (show (own_up (fun _ => 0) 0 yv) 0 = yv from by simp [own_up]) hf hg' hh' (Or.inr ⟨_, rfl⟩) (Or.inr ⟨_, rfl⟩) (Or.inr ⟨_, rfl⟩) (Or.inr ⟨_, rfl⟩) (Or.inr ⟨_, rfl⟩) (Or.inr ⟨_, rfl⟩) (Or.inr ⟨_, rfl⟩) hU htwo hsz (show (own_up (own_up (fun _ => 0) 0 (-1 : Int32)) 0 (own_n g)) 0 = (own_n g) from by simp [own_up]) (show (own_up (own_up (fun _ => 0) 0 (-1 : Int32)) 0 (own_n gz)) 0 = (own_n gz) from by simp [own_up]) hg' hh' (fun q => hgh q.symm) hmis
  have e12 : T12.heap = T12.heap := rfl
  have Zk12 : n0 ≤ T12.heap.size := Nat.le_trans Zk10 K12.1
  have Kk12 : Keep h0 T12.heap [a0, av, al, ah, au, qa, qb, qc, qd] := Kk10.trans K12 (allS (Or.inl (List.mem_of_getElem? (i := 0) rfl)) (allS (Or.inl (List.mem_of_getElem? (i := 1) rfl)) (allS (Or.inl (List.mem_of_getElem? (i := 2) rfl)) (allS (Or.inl (List.mem_of_getElem? (i := 3) rfl)) (allS (Or.inl (List.mem_of_getElem? (i := 4) rfl)) (allS (Or.inl (List.mem_of_getElem? (i := 5) rfl)) (allS (Or.inl (List.mem_of_getElem? (i := 6) rfl)) (allS (Or.inl (List.mem_of_getElem? (i := 7) rfl)) (allS (Or.inl (List.mem_of_getElem? (i := 8) rfl)) (allS (Or.inr (gz4 _ (List.mem_of_getElem? (i := 0) rfl))) (allS (Or.inr (gz4 _ (List.mem_of_getElem? (i := 1) rfl))) (allS (Or.inr (gz4 _ (List.mem_of_getElem? (i := 2) rfl))) (allS (Or.inr (gz4 _ (List.mem_of_getElem? (i := 3) rfl))) (allS (Or.inr (gz4 _ (List.mem_of_getElem? (i := 4) rfl))) (allS (Or.inr (gz4 _ (List.mem_of_getElem? (i := 5) rfl))) (allS (Or.inr (gz4 _ (List.mem_of_getElem? (i := 6) rfl))) all0))))))))))))))))
  obtain ⟨T13, X13, e13, st13⟩ := getF X12 hx hZ hown (host := "") (Or.inl (hw _ (own_w 104 rfl))) Via.refl e12 G12.Fs (g := (mkF m 288 #[rv a0, iv (own_n f), iv (own_n g), iv (own_n gz), iv (-1 : Int32), rv b2, iv (-1 : Int32), iv 0, iv yv, iv (own_n sz), iv 0, iv (own_n g), iv (own_n gz), iv (own_n gz)] [(.ref b2)])) rfl rfl (hb hby d9_288)
  have S14 : ∀ tz, oS p e below T13 (mkF m 320 #[rv a0, iv (own_n f), iv (own_n g), iv (own_n gz), iv (-1 : Int32), rv b2, iv (own_n sz), iv 0, iv yv, iv (own_n sz), iv 0, iv (own_n g), iv (own_n gz), iv (own_n gz)] [(.int (own_n sz))]) tz → oS p e below s₁ (mkF m 0 #[rv a0, iv (own_n f), iv (own_n g), iv (own_n gz), .unset, .unset, .unset, .unset, .unset, .unset, .unset, .unset, .unset, .unset] []) tz := fun tz kz => S11 tz (by
    show oS p e below T10 (mkF m 45 #[rv a0, iv (own_n f), iv (own_n g), iv (own_n gz), iv (-1 : Int32), rv b2, iv (-1 : Int32), iv 0, iv yv, iv 0, iv 0, iv (own_n g), iv (own_n gz), iv (own_n gz)] []) _
    refine st12 _ ?_
    show oS p e below T12 (mkF m 286 #[rv a0, iv (own_n f), iv (own_n g), iv (own_n gz), iv (-1 : Int32), rv b2, iv (-1 : Int32), iv 0, iv yv, iv (own_n sz), iv 0, iv (own_n g), iv (own_n gz), iv (own_n gz)] []) _
    refine XS.aload X12.here hx rfl (hb hby d9_286) rfl rfl ?_
    show oS p e below T12 (mkF m 288 #[rv a0, iv (own_n f), iv (own_n g), iv (own_n gz), iv (-1 : Int32), rv b2, iv (-1 : Int32), iv 0, iv yv, iv (own_n sz), iv 0, iv (own_n g), iv (own_n gz), iv (own_n gz)] [(.ref b2)]) _
    refine st13 _ ?_
    refine XS.ifNo X13.here hx rfl (hb hby d9_291) rfl (XT.i0_ne_f (by decide)) ?_
    refine XS.iload X13.here hx rfl (hb hby d9_294) rfl ?_
    refine XS.istore X13.here hx rfl (hb hby d9_296) rfl (l' := #[rv a0, iv (own_n f), iv (own_n g), iv (own_n gz), iv (-1 : Int32), rv b2, iv (own_n sz), iv 0, iv yv, iv (own_n sz), iv 0, iv (own_n g), iv (own_n gz), iv (own_n gz)]) rfl ?_
    refine XS.goto X13.here hx rfl (pc0 := 298) (pc' := 315) rfl (hb hby d9_298) (by decide) (by decide) ?_
    refine XS.goto X13.here hx rfl (pc0 := 315) (pc' := 45) rfl (hb hby d9_315) (by decide) (by decide) ?_
    refine XS.iload X13.here hx rfl (hb hby d9_45) rfl ?_
    refine XT.iconstV X13.here hx rfl (-1 : Int32) (hb hby d9_47) (by decide) ?_
    refine XS.icmpYes X13.here hx rfl (pc0 := 48) (pc' := 318) rfl (hb hby d9_48) rfl (XT.ii_ne_t (own_nm (i := sz) (by omega))) (by decide) (by decide) ?_
    refine XS.iload X13.here hx rfl (hb hby d9_318) rfl ?_
    show oS p e below T13 (mkF m 320 #[rv a0, iv (own_n f), iv (own_n g), iv (own_n gz), iv (-1 : Int32), rv b2, iv (own_n sz), iv 0, iv yv, iv (own_n sz), iv 0, iv (own_n g), iv (own_n gz), iv (own_n gz)] [(.int (own_n sz))]) _
    exact kz)
  obtain ⟨fs, hr, hrun, hended, hW, hsame⟩ := X13.leave (v := some (.int (own_n sz))) (fun h => by rw [Bd.returns] at h; cases h)
  refine ⟨_, _, pre0 _ (S14 _ ?_), hrun, hended, _, _, rfl, ?_, ⟨_, rfl⟩, hW, hsame.mono (by decide) (by decide)⟩
  · exact retI X13 hx Bd.returns (hb hby d9_320) hr
  · show QrmIteB Z a0 av al ah au qa qb qc qd vr lw hg uq c1 c2 c3 c4 sz f g gz yv h0 n0 _ T13.heap _
    rw [e13]
    exact ⟨k12, hk12, rfl, N12, Kk12, U12, D12⟩
def QrmItePP (Z : State) (a0 : Addr) (av : Addr) (al : Addr) (ah : Addr) (au : Addr) (qa : Addr) (qb : Addr) (qc : Addr) (qd : Addr) (vr : Nat → Int32) (lw : Nat → Int32) (hg : Nat → Int32) (uq : Nat → Int32) (c1 : Nat → Int32) (c2 : Nat → Int32) (c3 : Nat → Int32) (c4 : Nat → Int32) (sz : Nat) (f : Nat) (g : Nat) (gz : Nat) (yv : Int32) (xa : Nat) (xb : Nat) (xc : Nat) (xd : Nat) (ra : Nat) (rb : Nat) (yi : Int32) (h0 : Heap) (n0 : Nat) (v : Option Value) (h : Heap) (L : List Loc) : Prop := ∃ uq' c1' c2' c3' c4' : Nat → Int32, v = some (.int (own_n sz)) ∧ Fr n0 L ∧ Keep h0 h [a0, av, al, ah, au, qa, qb, qc, qd] ∧ own_Dia Z h a0 av al ah au qa qb qc qd (own_up vr sz yv) (own_up lw sz (own_n rb)) (own_up hg sz (own_n ra)) uq' c1' c2' c3' c4' (sz + 1)
set_option maxRecDepth 65536 in
set_option maxHeartbeats 40000000 in
theorem rmItePP (l : Launch) (Z : State) (av0 : Array Value) (hw : ∀ d ∈ tables_1, d.before av0 Z = true) (ws : List Jvm.Cond) (a0 : Addr) (av : Addr) (al : Addr) (ah : Addr) (au : Addr) (qa : Addr) (qb : Addr) (qc : Addr) (qd : Addr) (vr : Nat → Int32) (lw : Nat → Int32) (hg : Nat → Int32) (uq : Nat → Int32) (c1 : Nat → Int32) (c2 : Nat → Int32) (c3 : Nat → Int32) (c4 : Nat → Int32) (sz : Nat) (f : Nat) (g : Nat) (gz : Nat) (yv : Int32) (xa : Nat) (xb : Nat) (xc : Nat) (xd : Nat) (ra : Nat) (rb : Nat) (yi : Int32) (h0 : Heap) (n0 : Nat) (Z0 : n0 ≤ h0.size) (hD : own_Dia Z h0 a0 av al ah au qa qb qc qd vr lw hg uq c1 c2 c3 c4 sz) (hS : own_Sep n0 [a0, av, al, ah, au, qa, qb, qc, qd]) (hU : own_UI uq sz) (htwo : 2 ≤ sz) (hsz : sz < 900) (hf : f < 1000) (hg' : g < 1000) (hh' : gz < 1000) (htop : own_min (vr f) (own_min (vr g) (vr gz)) = yv) (hf2 : 2 ≤ f) (hgh : ¬ g = gz) (hnt : ¬ (g = 1 ∧ gz = 0)) (hm : ¬ c1 (own_cs (own_n f) (own_n g) (own_n gz)) = own_n f) (hsz2 : sz < 800) (hvf : ¬ vr f = yv) (hfs : f < sz) (hgs : g < sz) (hhs : gz < sz) (hca : (vr g = yv → hg g = own_n xa) ∧ (¬ vr g = yv → g = xa)) (hcb : (vr gz = yv → hg gz = own_n xb) ∧ (¬ vr gz = yv → gz = xb)) (hcc : (vr g = yv → lw g = own_n xc) ∧ (¬ vr g = yv → g = xc)) (hcd : (vr gz = yv → lw gz = own_n xd) ∧ (¬ vr gz = yv → gz = xd)) (hKa : own_KP (own_n f) (own_n xa) (own_n xb) (own_n ra)) (hKb : own_KP (own_n f) (own_n xc) (own_n xd) (own_n rb)) (hra : ra < 1000) (hrb : rb < 1000) (hrab : ¬ rb = ra) (hmis : ∀ n, 2 ≤ n → n < sz → ¬ (vr n = yv ∧ lw n = own_n rb ∧ hg n = own_n ra)) :
    own_Met l mN15 prog_72_method_3_code 14 (some .int) ws ({ frames := 3, cells := 7, slots := 103, locals := 48 } : Room) #[(.ref a0), (.int (own_n f)), (.int (own_n g)), (.int (own_n gz))] Z h0 (QrmItePP Z a0 av al ah au qa qb qc qd vr lw hg uq c1 c2 c3 c4 sz f g gz yv xa xb xc xd ra rb yi h0 n0) := by
  refine MetFree.of_bodySF (plainFor_of_name pn_DecisionDiagram) hisR ?_
  intro p e s m args below meth c s₁ Bd hml0 hP hK
  obtain ⟨rfl, hZ, hh⟩ := hP
  have hml : c.maxLocals = 14 := hml0
  obtain ⟨hx, hby, hown, hnm, X0, e0⟩ := own_start Bd hml0 hh
  have N0 := Fr.nil n0
  have pre0 : ∀ tz, oS p e below s₁ (mkF m 0 #[rv a0, iv (own_n f), iv (own_n g), iv (own_n gz), .unset, .unset, .unset, .unset, .unset, .unset, .unset, .unset, .unset, .unset] []) tz → Steps p.tables e below (s₁.setTop (entryFrame m #[(.ref a0), (.int (own_n f)), (.int (own_n g)), (.int (own_n gz))] 14)) tz := fun tz kz => castTop (by first | (simp [entryFrame, mkF, argsToLocals, Value.category]; done) | rfl) kz
  obtain ⟨_, T1, Lc1, X1, hQ1, st1⟩ := own_private (W := 0) (y := mN7) X0 hx hZ hown (hw _ (own_w 62 rfl)) (hw _ (own_w 4 rfl)) (hw _ (own_w 64 rfl)) (hw _ (own_w 63 rfl)) (hw _ (own_w 65 rfl)) (hw _ (own_w 5 rfl)) (by decide) (rmKM l Z av0 hw [] a0 av al ah au qa qb qc qd vr lw hg uq c1 c2 c3 c4 sz (own_n f) (own_n g) (own_n gz) h0 n0 Z0 hD (own_f1 hf hf2) (own_nne (by omega) (by omega) hgh) (own_f0 hf hf2) (own_n10 hg' hh' hnt) hm) (by decide) (by decide) hD.E (g := (mkF m 4 #[rv a0, iv (own_n f), iv (own_n g), iv (own_n gz), .unset, .unset, .unset, .unset, .unset, .unset, .unset, .unset, .unset, .unset] [(.int (own_n gz)), (.int (own_n g)), (.int (own_n f)), (.ref a0)])) rfl (by rw [hml]; rfl) (argsL := [(.int (own_n f)), (.int (own_n g)), (.int (own_n gz))]) (rest := []) (lenOf pd__III_I rfl) rfl (hb hby d9_4) rfl e0 (by decide : 0 + 0 ≤ _) (by decide : 0 + 0 ≤ _)
  obtain ⟨rfl, N1q, hh1⟩ := hQ1
  have N1 := Fr.app N0 N1q
  have e1 : T1.heap = h0 := hh1
  obtain ⟨T2, h2, X2, e2, E2, A2, D2, -, st2⟩ := newO X1 hx hZ hown (hw _ (own_w 70 rfl)) (hw _ (own_w 71 rfl)) (hw _ (own_w 72 rfl)) e1 (g := (mkF m 18 #[rv a0, iv (own_n f), iv (own_n g), iv (own_n gz), iv (-1 : Int32), .unset, .unset, .unset, .unset, .unset, .unset, .unset, .unset, .unset] [])) rfl (hb hby d9_18) (by decide) (by decide)
  obtain ⟨b2, g2⟩ : ∃ z, z = h0.size := ⟨_, rfl⟩
  rw [← g2] at A2 D2 st2
  have ne_a0_b2 : a0 ≠ b2 := Nat.ne_of_lt (Nat.lt_of_lt_of_le hD.E.lt (Nat.le_of_eq g2.symm))
  have ne_ah_b2 : ah ≠ b2 := Nat.ne_of_lt (Nat.lt_of_lt_of_le hD.Aah.lt (Nat.le_of_eq g2.symm))
  have ne_al_b2 : al ≠ b2 := Nat.ne_of_lt (Nat.lt_of_lt_of_le hD.Aal.lt (Nat.le_of_eq g2.symm))
  have ne_au_b2 : au ≠ b2 := Nat.ne_of_lt (Nat.lt_of_lt_of_le hD.Aau.lt (Nat.le_of_eq g2.symm))
  have ne_av_b2 : av ≠ b2 := Nat.ne_of_lt (Nat.lt_of_lt_of_le hD.Aav.lt (Nat.le_of_eq g2.symm))
  have ne_qa_b2 : qa ≠ b2 := Nat.ne_of_lt (Nat.lt_of_lt_of_le hD.Aqa.lt (Nat.le_of_eq g2.symm))
  have ne_qb_b2 : qb ≠ b2 := Nat.ne_of_lt (Nat.lt_of_lt_of_le hD.Aqb.lt (Nat.le_of_eq g2.symm))
  have ne_qc_b2 : qc ≠ b2 := Nat.ne_of_lt (Nat.lt_of_lt_of_le hD.Aqc.lt (Nat.le_of_eq g2.symm))
  have ne_qd_b2 : qd ≠ b2 := Nat.ne_of_lt (Nat.lt_of_lt_of_le hD.Aqd.lt (Nat.le_of_eq g2.symm))
  have ge_b2 : n0 ≤ b2 := Nat.le_trans Z0 (Nat.le_of_eq g2.symm)
  have sz_b2 : h0.size ≤ b2 := Nat.le_of_eq g2.symm
  have Z2 : n0 ≤ h2.size := Nat.le_trans Z0 E2.1
  have K2 : Keep h0 h2 [a0, av, al, ah, au, qa, qb, qc, qd] := (Keep.refl h0 [a0, av, al, ah, au, qa, qb, qc, qd]).ext E2
  have F2_f : Fld Z h2 b2 "com/example/prolong/prolong/tree/DecisionDiagram$Frames" "f" "[I" .null := D2 (Or.inl (hw _ (own_w 78 rfl))) (ty := (.array .int)) (by decide)
  have F2_g : Fld Z h2 b2 "com/example/prolong/prolong/tree/DecisionDiagram$Frames" "g" "[I" .null := D2 (Or.inl (hw _ (own_w 80 rfl))) (ty := (.array .int)) (by decide)
  have F2_h : Fld Z h2 b2 "com/example/prolong/prolong/tree/DecisionDiagram$Frames" "h" "[I" .null := D2 (Or.inl (hw _ (own_w 82 rfl))) (ty := (.array .int)) (by decide)
  have F2_variable : Fld Z h2 b2 "com/example/prolong/prolong/tree/DecisionDiagram$Frames" "variable" "[I" .null := D2 (Or.inl (hw _ (own_w 84 rfl))) (ty := (.array .int)) (by decide)
  have F2_high : Fld Z h2 b2 "com/example/prolong/prolong/tree/DecisionDiagram$Frames" "high" "[I" .null := D2 (Or.inl (hw _ (own_w 86 rfl))) (ty := (.array .int)) (by decide)
  have F2_low : Fld Z h2 b2 "com/example/prolong/prolong/tree/DecisionDiagram$Frames" "low" "[I" .null := D2 (Or.inl (hw _ (own_w 88 rfl))) (ty := (.array .int)) (by decide)
  have F2_depth : Fld Z h2 b2 "com/example/prolong/prolong/tree/DecisionDiagram$Frames" "depth" "I" (.int 0) := D2 (Or.inl (hw _ (own_w 103 rfl))) (ty := .int) (by decide)
  have D3 := (hD.ext E2)
  obtain ⟨_, T4, Lc4, X4, hQ4, st4⟩ := own_initRef (W := 1) (y := mN12) X2 hx hZ rfl hown (hw _ (own_w 73 rfl)) (hw _ (own_w 74 rfl)) (hw _ (own_w 75 rfl)) (hw _ (own_w 72 rfl)) (by decide) (rmFI l Z av0 hw [] b2 h2 n0 Z2 A2 ge_b2 F2_depth F2_f F2_g F2_h F2_variable F2_high F2_low) (by decide) (by decide) (g := (mkF m 22 #[rv a0, iv (own_n f), iv (own_n g), iv (own_n gz), iv (-1 : Int32), .unset, .unset, .unset, .unset, .unset, .unset, .unset, .unset, .unset] [(.ref b2), (.ref b2)])) rfl (by rw [hml]; rfl) (a := b2) (argsL := []) (rest := [(.ref b2)]) (lenOf pd__V rfl) rfl (hb hby d9_22) rfl e2 (by decide : 1 + 6 ≤ _) (by decide : 7 + 96 ≤ _)
  obtain ⟨b4bf, b4bg, b4bh, b4bv, b4bi, b4bl, rfl, N4q, K4, gq4, S4, G4⟩ := hQ4
  have N4 := Fr.app N1 N4q
  have e4 : T4.heap = T4.heap := rfl
  have Dk4 := D3.keep K4 (own_dj hD.lt (allS sz_b2 all0))
  have gz4 : ∀ y ∈ [b2, b4bf, b4bg, b4bh, b4bv, b4bi, b4bl], h0.size ≤ y := allS sz_b2 (fun y q => Nat.le_trans K2.1 (gq4 y q))
  have dj4 : ∀ y ∈ [a0, av, al, ah, au, qa, qb, qc, qd], y ∉ [b2, b4bf, b4bg, b4bh, b4bv, b4bi, b4bl] := own_dj hD.lt gz4
  have Zk4 : n0 ≤ T4.heap.size := Nat.le_trans Z2 K4.1
  have Kk4 : Keep h0 T4.heap [a0, av, al, ah, au, qa, qb, qc, qd] := K2.trans K4 (allS (Or.inr (gz4 _ (List.mem_of_getElem? (i := 0) rfl))) all0)
  obtain ⟨_, T5, Lc5, X5, hQ5, st5⟩ := own_private (W := 4) (y := mN9) X4 hx hZ hown (hw _ (own_w 89 rfl)) (hw _ (own_w 4 rfl)) (hw _ (own_w 91 rfl)) (hw _ (own_w 90 rfl)) (hw _ (own_w 92 rfl)) (hw _ (own_w 5 rfl)) (by decide) (rmTop l Z av0 hw [] a0 av al ah au qa qb qc qd vr lw hg uq c1 c2 c3 c4 sz f g gz T4.heap n0 Zk4 Dk4 hf hg' hh') (by decide) (by decide) Dk4.E (g := (mkF m 36 #[rv a0, iv (own_n f), iv (own_n g), iv (own_n gz), iv (-1 : Int32), rv b2, .unset, .unset, .unset, .unset, .unset, .unset, .unset, .unset] [(.int (own_n gz)), (.int (own_n g)), (.int (own_n f)), (.ref a0), (.int (own_n gz)), (.int (own_n g)), (.int (own_n f)), (.ref b2)])) rfl (by rw [hml]; rfl) (argsL := [(.int (own_n f)), (.int (own_n g)), (.int (own_n gz))]) (rest := [(.int (own_n gz)), (.int (own_n g)), (.int (own_n f)), (.ref b2)]) (lenOf pd__III_I rfl) rfl (hb hby d9_36) rfl e4 (by decide : 7 + 0 ≤ _) (by decide : 103 + 0 ≤ _)
  obtain ⟨rfl, N5q, hh5⟩ := hQ5
  have N5 := Fr.app N4 N5q
  have e5 : T5.heap = T4.heap := hh5
  obtain ⟨_, T6, Lc6, X6, hQ6, st6⟩ := own_virtual (W := 0) (y := mN13) (z := mN13) X5 hx hZ hown (hw _ (own_w 97 rfl)) (hw _ (own_w 98 rfl)) (notFace_of_selects (args := #[]) (mvT hZ (hw _ (own_w 100 rfl)))) (hw _ (own_w 100 rfl)) (hw _ (own_w 99 rfl)) (hw _ (own_w 101 rfl)) (hw _ (own_w 72 rfl)) (by decide) (rmPush l Z av0 hw [] b2 b4bf b4bg b4bh b4bv b4bi b4bl (fun _ => 0) (fun _ => 0) (fun _ => 0) (fun _ => 0) (fun _ => 0) (fun _ => 0) 0 (own_n f) (own_n g) (own_n gz) yv T4.heap n0 Zk4 G4 S4 (by decide)) (by decide) (by decide) G4.E (g := (mkF m 39 #[rv a0, iv (own_n f), iv (own_n g), iv (own_n gz), iv (-1 : Int32), rv b2, .unset, .unset, .unset, .unset, .unset, .unset, .unset, .unset] [(.int yv), (.int (own_n gz)), (.int (own_n g)), (.int (own_n f)), (.ref b2)])) rfl (by rw [hml]; rfl) (argsL := [(.int (own_n f)), (.int (own_n g)), (.int (own_n gz)), (.int yv)]) (rest := []) (lenOf pd__IIII_V rfl) rfl (hb hby d9_39) rfl e5 (by decide : 7 + 0 ≤ _) (by decide : 103 + 0 ≤ _)
  obtain ⟨rfl, N6q, K6, G6⟩ := hQ6
  have N6 := Fr.app N5 N6q
  have e6 : T6.heap = T6.heap := rfl
  have Zk6 : n0 ≤ T6.heap.size := Nat.le_trans Zk4 K6.1
  have Kk6 : Keep h0 T6.heap [a0, av, al, ah, au, qa, qb, qc, qd] := Kk4.trans K6 (allS (Or.inr (gz4 _ (List.mem_of_getElem? (i := 0) rfl))) (allS (Or.inr (gz4 _ (List.mem_of_getElem? (i := 1) rfl))) (allS (Or.inr (gz4 _ (List.mem_of_getElem? (i := 2) rfl))) (allS (Or.inr (gz4 _ (List.mem_of_getElem? (i := 3) rfl))) (allS (Or.inr (gz4 _ (List.mem_of_getElem? (i := 4) rfl))) (allS (Or.inr (gz4 _ (List.mem_of_getElem? (i := 5) rfl))) (allS (Or.inr (gz4 _ (List.mem_of_getElem? (i := 6) rfl))) all0)))))))
  have Dk6 := Dk4.keep K6 dj4
  have S7 : ∀ tz, oS p e below T6 (mkF m 45 #[rv a0, iv (own_n f), iv (own_n g), iv (own_n gz), iv (-1 : Int32), rv b2, iv (-1 : Int32), .unset, .unset, .unset, .unset, .unset, .unset, .unset] []) tz → oS p e below s₁ (mkF m 0 #[rv a0, iv (own_n f), iv (own_n g), iv (own_n gz), .unset, .unset, .unset, .unset, .unset, .unset, .unset, .unset, .unset, .unset] []) tz := fun tz kz => id (by
    show oS p e below s₁ (mkF m 0 #[rv a0, iv (own_n f), iv (own_n g), iv (own_n gz), .unset, .unset, .unset, .unset, .unset, .unset, .unset, .unset, .unset, .unset] []) _
    refine XS.aloadN X0.here hx rfl (hb hby d9_0) rfl rfl ?_
    refine XS.iloadN X0.here hx rfl (hb hby d9_1) rfl ?_
    refine XS.iloadN X0.here hx rfl (hb hby d9_2) rfl ?_
    refine XS.iloadN X0.here hx rfl (hb hby d9_3) rfl ?_
    refine st1 _ ?_
    refine XS.istore X1.here hx rfl (hb hby d9_7) rfl (l' := #[rv a0, iv (own_n f), iv (own_n g), iv (own_n gz), iv (-1 : Int32), .unset, .unset, .unset, .unset, .unset, .unset, .unset, .unset, .unset]) rfl ?_
    refine XS.iload X1.here hx rfl (hb hby d9_9) rfl ?_
    refine XT.iconstV X1.here hx rfl (-1 : Int32) (hb hby d9_11) (by decide) ?_
    refine XS.icmpYes X1.here hx rfl (pc0 := 12) (pc' := 18) rfl (hb hby d9_12) rfl (XT.ii_eq_t (by decide)) (by decide) (by decide) ?_
    refine st2 _ ?_
    show oS p e below T2 (mkF m 21 #[rv a0, iv (own_n f), iv (own_n g), iv (own_n gz), iv (-1 : Int32), .unset, .unset, .unset, .unset, .unset, .unset, .unset, .unset, .unset] [(.ref b2)]) _
    refine XS.dup X2.here hx rfl (hb hby d9_21) rfl rfl ?_
    refine st4 _ ?_
    refine XS.astore X4.here hx rfl (hb hby d9_25) rfl rfl (l' := #[rv a0, iv (own_n f), iv (own_n g), iv (own_n gz), iv (-1 : Int32), rv b2, .unset, .unset, .unset, .unset, .unset, .unset, .unset, .unset]) rfl ?_
    refine XS.aload X4.here hx rfl (hb hby d9_27) rfl rfl ?_
    refine XS.iloadN X4.here hx rfl (hb hby d9_29) rfl ?_
    refine XS.iloadN X4.here hx rfl (hb hby d9_30) rfl ?_
    refine XS.iloadN X4.here hx rfl (hb hby d9_31) rfl ?_
    refine XS.aloadN X4.here hx rfl (hb hby d9_32) rfl rfl ?_
    refine XS.iloadN X4.here hx rfl (hb hby d9_33) rfl ?_
    refine XS.iloadN X4.here hx rfl (hb hby d9_34) rfl ?_
    show oS p e below T4 (mkF m 35 #[rv a0, iv (own_n f), iv (own_n g), iv (own_n gz), iv (-1 : Int32), rv b2, .unset, .unset, .unset, .unset, .unset, .unset, .unset, .unset] [(.int (own_n g)), (.int (own_n f)), (.ref a0), (.int (own_n gz)), (.int (own_n g)), (.int (own_n f)), (.ref b2)]) _
    refine XS.iloadN X4.here hx rfl (hb hby d9_35) rfl ?_
    refine st5 _ ?_
    show oS p e below T5 (mkF m 39 #[rv a0, iv (own_n f), iv (own_n g), iv (own_n gz), iv (-1 : Int32), rv b2, .unset, .unset, .unset, .unset, .unset, .unset, .unset, .unset] [(.int (own_min (vr f) (own_min (vr g) (vr gz)))), (.int (own_n gz)), (.int (own_n g)), (.int (own_n f)), (.ref b2)]) _
    rw [htop]
    show oS p e below T5 (mkF m 39 #[rv a0, iv (own_n f), iv (own_n g), iv (own_n gz), iv (-1 : Int32), rv b2, .unset, .unset, .unset, .unset, .unset, .unset, .unset, .unset] [(.int yv), (.int (own_n gz)), (.int (own_n g)), (.int (own_n f)), (.ref b2)]) _
    refine st6 _ ?_
    refine XT.iconstV X6.here hx rfl (-1 : Int32) (hb hby d9_42) (by decide) ?_
    refine XS.istore X6.here hx rfl (hb hby d9_43) rfl (l' := #[rv a0, iv (own_n f), iv (own_n g), iv (own_n gz), iv (-1 : Int32), rv b2, iv (-1 : Int32), .unset, .unset, .unset, .unset, .unset, .unset, .unset]) rfl ?_
    exact kz)
  obtain ⟨T8, _, l8, X8, rfl, N8, K8, D8, G8, st8⟩ := own_H1 a0 av al ah au qa qb qc qd vr lw hg uq c1 c2 c3 c4 sz b2 b4bf b4bg b4bh b4bv b4bi b4bl (own_up (fun _ => 0) 0 (own_n f)) (own_up (fun _ => 0) 0 (own_n g)) (own_up (fun _ => 0) 0 (own_n gz)) (own_up (fun _ => 0) 0 yv) (own_up (fun _ => 0) 0 (-1 : Int32)) (own_up (fun _ => 0) 0 (-1 : Int32)) 0 f g gz yv (iv (own_n f)) (iv (own_n g)) (iv (own_n gz)) (iv (-1 : Int32)) (.unset) (.unset) (.unset) (.unset) (.unset) (.unset) (.unset) f xa xb ra X6 hx hZ hw hby hml hown e6 N6 Zk6 Dk6 G6 hS S4 dj4 (by decide) (show (own_up (fun _ => 0) 0 (own_n f)) 0 = (own_n f) from by simp [own_up]) (show (own_up (fun _ => 0) 0 (own_n g)) 0 = (own_n g) from by simp [own_up]) (show (own_up (fun _ => 0) 0 (own_n gz)) 0 = (own_n gz) from by simp [own_up]) (show (own_up (fun _ => 0) 0 yv) 0 = yv from by simp [own_up]) hf hg' hh' (Or.inl rfl) (Or.inl rfl) (Or.inl rfl) (Or.inl rfl) (Or.inl rfl) (Or.inl rfl) (Or.inl rfl) (show (own_up (fun _ => 0) 0 (-1 : Int32)) 0 = (-1 : Int32) from by simp [own_up]) ⟨fun q => absurd q hvf, fun _ => rfl⟩ hca hcb hKa hra
  have e8 : T8.heap = T8.heap := rfl
  have Zk8 : n0 ≤ T8.heap.size := Nat.le_trans Zk6 K8.1
  have Kk8 : Keep h0 T8.heap [a0, av, al, ah, au, qa, qb, qc, qd] := Kk6.trans K8 (allS (Or.inl (List.mem_of_getElem? (i := 0) rfl)) (allS (Or.inl (List.mem_of_getElem? (i := 1) rfl)) (allS (Or.inl (List.mem_of_getElem? (i := 2) rfl)) (allS (Or.inl (List.mem_of_getElem? (i := 3) rfl)) (allS (Or.inl (List.mem_of_getElem? (i := 4) rfl)) (allS (Or.inl (List.mem_of_getElem? (i := 5) rfl)) (allS (Or.inl (List.mem_of_getElem? (i := 6) rfl)) (allS (Or.inl (List.mem_of_getElem? (i := 7) rfl)) (allS (Or.inl (List.mem_of_getElem? (i := 8) rfl)) (allS (Or.inr (gz4 _ (List.mem_of_getElem? (i := 0) rfl))) (allS (Or.inr (gz4 _ (List.mem_of_getElem? (i := 1) rfl))) (allS (Or.inr (gz4 _ (List.mem_of_getElem? (i := 2) rfl))) (allS (Or.inr (gz4 _ (List.mem_of_getElem? (i := 3) rfl))) (allS (Or.inr (gz4 _ (List.mem_of_getElem? (i := 4) rfl))) (allS (Or.inr (gz4 _ (List.mem_of_getElem? (i := 5) rfl))) (allS (Or.inr (gz4 _ (List.mem_of_getElem? (i := 6) rfl))) all0))))))))))))))))
  have S9 : ∀ tz, oS p e below T8 (mkF m 45 #[rv a0, iv (own_n f), iv (own_n g), iv (own_n gz), iv (-1 : Int32), rv b2, iv (-1 : Int32), iv 0, iv yv, iv 1, iv (own_n f), iv (own_n xa), iv (own_n xb), iv (own_n ra)] []) tz → oS p e below s₁ (mkF m 0 #[rv a0, iv (own_n f), iv (own_n g), iv (own_n gz), .unset, .unset, .unset, .unset, .unset, .unset, .unset, .unset, .unset, .unset] []) tz := fun tz kz => S7 tz (by
    show oS p e below T6 (mkF m 45 #[rv a0, iv (own_n f), iv (own_n g), iv (own_n gz), iv (-1 : Int32), rv b2, iv (-1 : Int32), .unset, .unset, .unset, .unset, .unset, .unset, .unset] []) _
    refine st8 _ ?_
    show oS p e below T8 (mkF m 45 #[rv a0, iv (own_n f), iv (own_n g), iv (own_n gz), iv (-1 : Int32), rv b2, iv (-1 : Int32), iv 0, iv yv, iv 1, iv (own_n f), iv (own_n xa), iv (own_n xb), iv (own_n ra)] []) _
    exact kz)
  obtain ⟨T10, _, l10, X10, rfl, N10, K10, D10, G10, st10⟩ := own_H0 a0 av al ah au qa qb qc qd vr lw hg uq c1 c2 c3 c4 sz b2 b4bf b4bg b4bh b4bv b4bi b4bl (own_up (fun _ => 0) 0 (own_n f)) (own_up (fun _ => 0) 0 (own_n g)) (own_up (fun _ => 0) 0 (own_n gz)) (own_up (fun _ => 0) 0 yv) (own_up (own_up (fun _ => 0) 0 (-1 : Int32)) 0 (own_n ra)) (own_up (fun _ => 0) 0 (-1 : Int32)) 0 f g gz yv (iv (own_n f)) (iv (own_n g)) (iv (own_n gz)) (iv (-1 : Int32)) (iv 0) (iv yv) (iv 1) (iv (own_n f)) (iv (own_n xa)) (iv (own_n xb)) (iv (own_n ra)) f xc xd rb X8 hx hZ hw hby hml hown e8 N8 Zk8 D8 G8 hS S4 dj4 (by decide) (show (own_up (fun _ => 0) 0 (own_n f)) 0 = (own_n f) from by simp [own_up]) (show (own_up (fun _ => 0) 0 (own_n g)) 0 = (own_n g) from by simp [own_up]) (show (own_up (fun _ => 0) 0 (own_n gz)) 0 = (own_n gz) from by simp [own_up]) (show (own_up (fun _ => 0) 0 yv) 0 = yv from by simp [own_up]) hf hg' hh' (Or.inr ⟨_, rfl⟩) (Or.inr ⟨_, rfl⟩) (Or.inr ⟨_, rfl⟩) (Or.inr ⟨_, rfl⟩) (Or.inr ⟨_, rfl⟩) (Or.inr ⟨_, rfl⟩) (Or.inr ⟨_, rfl⟩) (fun z => own_nm (i := ra) (by omega) ((show (own_up (own_up (fun _ => 0) 0 (-1 : Int32)) 0 (own_n ra)) 0 = (own_n ra) from by simp [own_up]).symm.trans z)) (show (own_up (fun _ => 0) 0 (-1 : Int32)) 0 = (-1 : Int32) from by simp [own_up]) ⟨fun q => absurd q hvf, fun _ => rfl⟩ hcc hcd hKb hrb
  have e10 : T10.heap = T10.heap := rfl
  have Zk10 : n0 ≤ T10.heap.size := Nat.le_trans Zk8 K10.1
  have Kk10 : Keep h0 T10.heap [a0, av, al, ah, au, qa, qb, qc, qd] := Kk8.trans K10 (allS (Or.inl (List.mem_of_getElem? (i := 0) rfl)) (allS (Or.inl (List.mem_of_getElem? (i := 1) rfl)) (allS (Or.inl (List.mem_of_getElem? (i := 2) rfl)) (allS (Or.inl (List.mem_of_getElem? (i := 3) rfl)) (allS (Or.inl (List.mem_of_getElem? (i := 4) rfl)) (allS (Or.inl (List.mem_of_getElem? (i := 5) rfl)) (allS (Or.inl (List.mem_of_getElem? (i := 6) rfl)) (allS (Or.inl (List.mem_of_getElem? (i := 7) rfl)) (allS (Or.inl (List.mem_of_getElem? (i := 8) rfl)) (allS (Or.inr (gz4 _ (List.mem_of_getElem? (i := 0) rfl))) (allS (Or.inr (gz4 _ (List.mem_of_getElem? (i := 1) rfl))) (allS (Or.inr (gz4 _ (List.mem_of_getElem? (i := 2) rfl))) (allS (Or.inr (gz4 _ (List.mem_of_getElem? (i := 3) rfl))) (allS (Or.inr (gz4 _ (List.mem_of_getElem? (i := 4) rfl))) (allS (Or.inr (gz4 _ (List.mem_of_getElem? (i := 5) rfl))) (allS (Or.inr (gz4 _ (List.mem_of_getElem? (i := 6) rfl))) all0))))))))))))))))
  have S11 : ∀ tz, oS p e below T10 (mkF m 45 #[rv a0, iv (own_n f), iv (own_n g), iv (own_n gz), iv (-1 : Int32), rv b2, iv (-1 : Int32), iv 0, iv yv, iv 0, iv (own_n f), iv (own_n xc), iv (own_n xd), iv (own_n rb)] []) tz → oS p e below s₁ (mkF m 0 #[rv a0, iv (own_n f), iv (own_n g), iv (own_n gz), .unset, .unset, .unset, .unset, .unset, .unset, .unset, .unset, .unset, .unset] []) tz := fun tz kz => S9 tz (by
    show oS p e below T8 (mkF m 45 #[rv a0, iv (own_n f), iv (own_n g), iv (own_n gz), iv (-1 : Int32), rv b2, iv (-1 : Int32), iv 0, iv yv, iv 1, iv (own_n f), iv (own_n xa), iv (own_n xb), iv (own_n ra)] []) _
    refine st10 _ ?_
    show oS p e below T10 (mkF m 45 #[rv a0, iv (own_n f), iv (own_n g), iv (own_n gz), iv (-1 : Int32), rv b2, iv (-1 : Int32), iv 0, iv yv, iv 0, iv (own_n f), iv (own_n xc), iv (own_n xd), iv (own_n rb)] []) _
    exact kz)
  obtain ⟨T12, _, l12, X12, rfl, N12, ⟨k12, hk12, U12, K12, D12, G12⟩, st12⟩ := own_C a0 av al ah au qa qb qc qd vr lw hg uq c1 c2 c3 c4 sz b2 b4bf b4bg b4bh b4bv b4bi b4bl (own_up (fun _ => 0) 0 (own_n f)) (own_up (fun _ => 0) 0 (own_n g)) (own_up (fun _ => 0) 0 (own_n gz)) (own_up (fun _ => 0) 0 yv) (own_up (own_up (fun _ => 0) 0 (-1 : Int32)) 0 (own_n ra)) (own_up (own_up (fun _ => 0) 0 (-1 : Int32)) 0 (own_n rb)) 0 f g gz yv (iv (own_n f)) (iv (own_n g)) (iv (own_n gz)) (iv (-1 : Int32)) (iv 0) (iv yv) (iv 0) (iv (own_n f)) (iv (own_n xc)) (iv (own_n xd)) (iv (own_n rb)) ra rb X10 hx hZ hw hby hml hown e10 N10 Zk10 D10 G10 hS S4 dj4 (by decide) (show (own_up (fun _ => 0) 0 (own_n f)) 0 = (own_n f) from by simp [own_up]) (show (own_up (fun _ => 0) 0 (own_n g)) 0 = (own_n g) from by simp [own_up]) (show (own_up (fun _ => 0) 0 (own_n gz)) 0 = (own_n gz) from by simp [own_up]) (show (own_up (fun _ => 0) 0 yv) 0 = yv from by simp [own_up]) hf hg' hh' (Or.inr ⟨_, rfl⟩) (Or.inr ⟨_, rfl⟩) (Or.inr ⟨_, rfl⟩) (Or.inr ⟨_, rfl⟩) (Or.inr ⟨_, rfl⟩) (Or.inr ⟨_, rfl⟩) (Or.inr ⟨_, rfl⟩) hU htwo hsz (show (own_up (own_up (fun _ => 0) 0 (-1 : Int32)) 0 (own_n ra)) 0 = (own_n ra) from by simp [own_up]) (show (own_up (own_up (fun _ => 0) 0 (-1 : Int32)) 0 (own_n rb)) 0 = (own_n rb) from by simp [own_up]) hra hrb hrab hmis
  have e12 : T12.heap = T12.heap := rfl
  have Zk12 : n0 ≤ T12.heap.size := Nat.le_trans Zk10 K12.1
  have Kk12 : Keep h0 T12.heap [a0, av, al, ah, au, qa, qb, qc, qd] := Kk10.trans K12 (allS (Or.inl (List.mem_of_getElem? (i := 0) rfl)) (allS (Or.inl (List.mem_of_getElem? (i := 1) rfl)) (allS (Or.inl (List.mem_of_getElem? (i := 2) rfl)) (allS (Or.inl (List.mem_of_getElem? (i := 3) rfl)) (allS (Or.inl (List.mem_of_getElem? (i := 4) rfl)) (allS (Or.inl (List.mem_of_getElem? (i := 5) rfl)) (allS (Or.inl (List.mem_of_getElem? (i := 6) rfl)) (allS (Or.inl (List.mem_of_getElem? (i := 7) rfl)) (allS (Or.inl (List.mem_of_getElem? (i := 8) rfl)) (allS (Or.inr (gz4 _ (List.mem_of_getElem? (i := 0) rfl))) (allS (Or.inr (gz4 _ (List.mem_of_getElem? (i := 1) rfl))) (allS (Or.inr (gz4 _ (List.mem_of_getElem? (i := 2) rfl))) (allS (Or.inr (gz4 _ (List.mem_of_getElem? (i := 3) rfl))) (allS (Or.inr (gz4 _ (List.mem_of_getElem? (i := 4) rfl))) (allS (Or.inr (gz4 _ (List.mem_of_getElem? (i := 5) rfl))) (allS (Or.inr (gz4 _ (List.mem_of_getElem? (i := 6) rfl))) all0))))))))))))))))
  obtain ⟨T13, X13, e13, st13⟩ := getF X12 hx hZ hown (host := "") (Or.inl (hw _ (own_w 104 rfl))) Via.refl e12 G12.Fs (g := (mkF m 288 #[rv a0, iv (own_n f), iv (own_n g), iv (own_n gz), iv (-1 : Int32), rv b2, iv (-1 : Int32), iv 0, iv yv, iv (own_n sz), iv (own_n f), iv (own_n xc), iv (own_n xd), iv (own_n rb)] [(.ref b2)])) rfl rfl (hb hby d9_288)
  have S14 : ∀ tz, oS p e below T13 (mkF m 320 #[rv a0, iv (own_n f), iv (own_n g), iv (own_n gz), iv (-1 : Int32), rv b2, iv (own_n sz), iv 0, iv yv, iv (own_n sz), iv (own_n f), iv (own_n xc), iv (own_n xd), iv (own_n rb)] [(.int (own_n sz))]) tz → oS p e below s₁ (mkF m 0 #[rv a0, iv (own_n f), iv (own_n g), iv (own_n gz), .unset, .unset, .unset, .unset, .unset, .unset, .unset, .unset, .unset, .unset] []) tz := fun tz kz => S11 tz (by
    show oS p e below T10 (mkF m 45 #[rv a0, iv (own_n f), iv (own_n g), iv (own_n gz), iv (-1 : Int32), rv b2, iv (-1 : Int32), iv 0, iv yv, iv 0, iv (own_n f), iv (own_n xc), iv (own_n xd), iv (own_n rb)] []) _
    refine st12 _ ?_
    show oS p e below T12 (mkF m 286 #[rv a0, iv (own_n f), iv (own_n g), iv (own_n gz), iv (-1 : Int32), rv b2, iv (-1 : Int32), iv 0, iv yv, iv (own_n sz), iv (own_n f), iv (own_n xc), iv (own_n xd), iv (own_n rb)] []) _
    refine XS.aload X12.here hx rfl (hb hby d9_286) rfl rfl ?_
    show oS p e below T12 (mkF m 288 #[rv a0, iv (own_n f), iv (own_n g), iv (own_n gz), iv (-1 : Int32), rv b2, iv (-1 : Int32), iv 0, iv yv, iv (own_n sz), iv (own_n f), iv (own_n xc), iv (own_n xd), iv (own_n rb)] [(.ref b2)]) _
    refine st13 _ ?_
    refine XS.ifNo X13.here hx rfl (hb hby d9_291) rfl (XT.i0_ne_f (by decide)) ?_
    refine XS.iload X13.here hx rfl (hb hby d9_294) rfl ?_
    refine XS.istore X13.here hx rfl (hb hby d9_296) rfl (l' := #[rv a0, iv (own_n f), iv (own_n g), iv (own_n gz), iv (-1 : Int32), rv b2, iv (own_n sz), iv 0, iv yv, iv (own_n sz), iv (own_n f), iv (own_n xc), iv (own_n xd), iv (own_n rb)]) rfl ?_
    refine XS.goto X13.here hx rfl (pc0 := 298) (pc' := 315) rfl (hb hby d9_298) (by decide) (by decide) ?_
    refine XS.goto X13.here hx rfl (pc0 := 315) (pc' := 45) rfl (hb hby d9_315) (by decide) (by decide) ?_
    refine XS.iload X13.here hx rfl (hb hby d9_45) rfl ?_
    refine XT.iconstV X13.here hx rfl (-1 : Int32) (hb hby d9_47) (by decide) ?_
    refine XS.icmpYes X13.here hx rfl (pc0 := 48) (pc' := 318) rfl (hb hby d9_48) rfl (XT.ii_ne_t (own_nm (i := sz) (by omega))) (by decide) (by decide) ?_
    refine XS.iload X13.here hx rfl (hb hby d9_318) rfl ?_
    show oS p e below T13 (mkF m 320 #[rv a0, iv (own_n f), iv (own_n g), iv (own_n gz), iv (-1 : Int32), rv b2, iv (own_n sz), iv 0, iv yv, iv (own_n sz), iv (own_n f), iv (own_n xc), iv (own_n xd), iv (own_n rb)] [(.int (own_n sz))]) _
    exact kz)
  obtain ⟨fs, hr, hrun, hended, hW, hsame⟩ := X13.leave (v := some (.int (own_n sz))) (fun h => by rw [Bd.returns] at h; cases h)
  refine ⟨_, _, pre0 _ (S14 _ ?_), hrun, hended, _, _, rfl, ?_, ⟨_, rfl⟩, hW, hsame.mono (by decide) (by decide)⟩
  · exact retI X13 hx Bd.returns (hb hby d9_320) hr
  · show QrmItePP Z a0 av al ah au qa qb qc qd vr lw hg uq c1 c2 c3 c4 sz f g gz yv xa xb xc xd ra rb yi h0 n0 _ T13.heap _
    rw [e13]
    exact ⟨_, _, _, _, _, rfl, N12, Kk12, D12⟩
def QrmIteBP (Z : State) (a0 : Addr) (av : Addr) (al : Addr) (ah : Addr) (au : Addr) (qa : Addr) (qb : Addr) (qc : Addr) (qd : Addr) (vr : Nat → Int32) (lw : Nat → Int32) (hg : Nat → Int32) (uq : Nat → Int32) (c1 : Nat → Int32) (c2 : Nat → Int32) (c3 : Nat → Int32) (c4 : Nat → Int32) (sz : Nat) (f : Nat) (g : Nat) (gz : Nat) (yv : Int32) (xc : Nat) (xd : Nat) (rb : Nat) (yi : Int32) (h0 : Heap) (n0 : Nat) (v : Option Value) (h : Heap) (L : List Loc) : Prop := ∃ uq' c1' c2' c3' c4' : Nat → Int32, v = some (.int (own_n (sz + 1))) ∧ Fr n0 L ∧ Keep h0 h [a0, av, al, ah, au, qa, qb, qc, qd] ∧ own_Dia Z h a0 av al ah au qa qb qc qd (own_up (own_up vr sz yi) (sz + 1) yv) (own_up (own_up lw sz (own_n 1)) (sz + 1) (own_n rb)) (own_up (own_up hg sz (own_n 0)) (sz + 1) (own_n sz)) uq' c1' c2' c3' c4' (sz + 1 + 1)
set_option maxRecDepth 65536 in
set_option maxHeartbeats 40000000 in
theorem rmIteBP (l : Launch) (Z : State) (av0 : Array Value) (hw : ∀ d ∈ tables_1, d.before av0 Z = true) (ws : List Jvm.Cond) (a0 : Addr) (av : Addr) (al : Addr) (ah : Addr) (au : Addr) (qa : Addr) (qb : Addr) (qc : Addr) (qd : Addr) (vr : Nat → Int32) (lw : Nat → Int32) (hg : Nat → Int32) (uq : Nat → Int32) (c1 : Nat → Int32) (c2 : Nat → Int32) (c3 : Nat → Int32) (c4 : Nat → Int32) (sz : Nat) (f : Nat) (g : Nat) (gz : Nat) (yv : Int32) (xc : Nat) (xd : Nat) (rb : Nat) (yi : Int32) (h0 : Heap) (n0 : Nat) (Z0 : n0 ≤ h0.size) (hD : own_Dia Z h0 a0 av al ah au qa qb qc qd vr lw hg uq c1 c2 c3 c4 sz) (hS : own_Sep n0 [a0, av, al, ah, au, qa, qb, qc, qd]) (hU : own_UI uq sz) (htwo : 2 ≤ sz) (hsz : sz < 900) (hf : f < 1000) (hg' : g < 1000) (hh' : gz < 1000) (htop : own_min (vr f) (own_min (vr g) (vr gz)) = yv) (hf2 : 2 ≤ f) (hgh : ¬ g = gz) (hnt : ¬ (g = 1 ∧ gz = 0)) (hm : ¬ c1 (own_cs (own_n f) (own_n g) (own_n gz)) = own_n f) (hsz2 : sz < 800) (hvf : ¬ vr f = yv) (hfs : f < sz) (hgs : g < sz) (hhs : gz < sz) (hca : (vr g = yv → hg g = own_n 0) ∧ (¬ vr g = yv → g = 0)) (hcb : (vr gz = yv → hg gz = own_n 1) ∧ (¬ vr gz = yv → gz = 1)) (hcc : (vr g = yv → lw g = own_n xc) ∧ (¬ vr g = yv → g = xc)) (hcd : (vr gz = yv → lw gz = own_n xd) ∧ (¬ vr gz = yv → gz = xd)) (hKb : own_KP (own_n f) (own_n xc) (own_n xd) (own_n rb)) (hrb : rb < 1000) (hrs : ¬ rb = sz) (hmis : ∀ n, 2 ≤ n → n < sz → ¬ (vr n = yv ∧ lw n = own_n rb ∧ hg n = own_n sz)) (hvi : vr f = yi) (hyi : ¬ yi = yv) (hhf : hg f = own_n 1) (hlf : lw f = own_n 0) (hv0 : ¬ vr 0 = yi) (hv1 : ¬ vr 1 = yi) (hmi : ¬ c1 (own_cs (own_n f) (own_n 0) (own_n 1)) = own_n f) (htopi : own_min (vr f) (own_min (vr 0) (vr 1)) = yi) (hmisi : ∀ n, 2 ≤ n → n < sz → ¬ (vr n = yi ∧ lw n = own_n 1 ∧ hg n = own_n 0)) :
    own_Met l mN15 prog_72_method_3_code 14 (some .int) ws ({ frames := 3, cells := 7, slots := 103, locals := 48 } : Room) #[(.ref a0), (.int (own_n f)), (.int (own_n g)), (.int (own_n gz))] Z h0 (QrmIteBP Z a0 av al ah au qa qb qc qd vr lw hg uq c1 c2 c3 c4 sz f g gz yv xc xd rb yi h0 n0) := by
  refine MetFree.of_bodySF (plainFor_of_name pn_DecisionDiagram) hisR ?_
  intro p e s m args below meth c s₁ Bd hml0 hP hK
  obtain ⟨rfl, hZ, hh⟩ := hP
  have hml : c.maxLocals = 14 := hml0
  obtain ⟨hx, hby, hown, hnm, X0, e0⟩ := own_start Bd hml0 hh
  have N0 := Fr.nil n0
  have pre0 : ∀ tz, oS p e below s₁ (mkF m 0 #[rv a0, iv (own_n f), iv (own_n g), iv (own_n gz), .unset, .unset, .unset, .unset, .unset, .unset, .unset, .unset, .unset, .unset] []) tz → Steps p.tables e below (s₁.setTop (entryFrame m #[(.ref a0), (.int (own_n f)), (.int (own_n g)), (.int (own_n gz))] 14)) tz := fun tz kz => castTop (by first | (simp [entryFrame, mkF, argsToLocals, Value.category]; done) | rfl) kz
  obtain ⟨_, T1, Lc1, X1, hQ1, st1⟩ := own_private (W := 0) (y := mN7) X0 hx hZ hown (hw _ (own_w 62 rfl)) (hw _ (own_w 4 rfl)) (hw _ (own_w 64 rfl)) (hw _ (own_w 63 rfl)) (hw _ (own_w 65 rfl)) (hw _ (own_w 5 rfl)) (by decide) (rmKM l Z av0 hw [] a0 av al ah au qa qb qc qd vr lw hg uq c1 c2 c3 c4 sz (own_n f) (own_n g) (own_n gz) h0 n0 Z0 hD (own_f1 hf hf2) (own_nne (by omega) (by omega) hgh) (own_f0 hf hf2) (own_n10 hg' hh' hnt) hm) (by decide) (by decide) hD.E (g := (mkF m 4 #[rv a0, iv (own_n f), iv (own_n g), iv (own_n gz), .unset, .unset, .unset, .unset, .unset, .unset, .unset, .unset, .unset, .unset] [(.int (own_n gz)), (.int (own_n g)), (.int (own_n f)), (.ref a0)])) rfl (by rw [hml]; rfl) (argsL := [(.int (own_n f)), (.int (own_n g)), (.int (own_n gz))]) (rest := []) (lenOf pd__III_I rfl) rfl (hb hby d9_4) rfl e0 (by decide : 0 + 0 ≤ _) (by decide : 0 + 0 ≤ _)
  obtain ⟨rfl, N1q, hh1⟩ := hQ1
  have N1 := Fr.app N0 N1q
  have e1 : T1.heap = h0 := hh1
  obtain ⟨T2, h2, X2, e2, E2, A2, D2, -, st2⟩ := newO X1 hx hZ hown (hw _ (own_w 70 rfl)) (hw _ (own_w 71 rfl)) (hw _ (own_w 72 rfl)) e1 (g := (mkF m 18 #[rv a0, iv (own_n f), iv (own_n g), iv (own_n gz), iv (-1 : Int32), .unset, .unset, .unset, .unset, .unset, .unset, .unset, .unset, .unset] [])) rfl (hb hby d9_18) (by decide) (by decide)
  obtain ⟨b2, g2⟩ : ∃ z, z = h0.size := ⟨_, rfl⟩
  rw [← g2] at A2 D2 st2
  have ne_a0_b2 : a0 ≠ b2 := Nat.ne_of_lt (Nat.lt_of_lt_of_le hD.E.lt (Nat.le_of_eq g2.symm))
  have ne_ah_b2 : ah ≠ b2 := Nat.ne_of_lt (Nat.lt_of_lt_of_le hD.Aah.lt (Nat.le_of_eq g2.symm))
  have ne_al_b2 : al ≠ b2 := Nat.ne_of_lt (Nat.lt_of_lt_of_le hD.Aal.lt (Nat.le_of_eq g2.symm))
  have ne_au_b2 : au ≠ b2 := Nat.ne_of_lt (Nat.lt_of_lt_of_le hD.Aau.lt (Nat.le_of_eq g2.symm))
  have ne_av_b2 : av ≠ b2 := Nat.ne_of_lt (Nat.lt_of_lt_of_le hD.Aav.lt (Nat.le_of_eq g2.symm))
  have ne_qa_b2 : qa ≠ b2 := Nat.ne_of_lt (Nat.lt_of_lt_of_le hD.Aqa.lt (Nat.le_of_eq g2.symm))
  have ne_qb_b2 : qb ≠ b2 := Nat.ne_of_lt (Nat.lt_of_lt_of_le hD.Aqb.lt (Nat.le_of_eq g2.symm))
  have ne_qc_b2 : qc ≠ b2 := Nat.ne_of_lt (Nat.lt_of_lt_of_le hD.Aqc.lt (Nat.le_of_eq g2.symm))
  have ne_qd_b2 : qd ≠ b2 := Nat.ne_of_lt (Nat.lt_of_lt_of_le hD.Aqd.lt (Nat.le_of_eq g2.symm))
  have ge_b2 : n0 ≤ b2 := Nat.le_trans Z0 (Nat.le_of_eq g2.symm)
  have sz_b2 : h0.size ≤ b2 := Nat.le_of_eq g2.symm
  have Z2 : n0 ≤ h2.size := Nat.le_trans Z0 E2.1
  have K2 : Keep h0 h2 [a0, av, al, ah, au, qa, qb, qc, qd] := (Keep.refl h0 [a0, av, al, ah, au, qa, qb, qc, qd]).ext E2
  have F2_f : Fld Z h2 b2 "com/example/prolong/prolong/tree/DecisionDiagram$Frames" "f" "[I" .null := D2 (Or.inl (hw _ (own_w 78 rfl))) (ty := (.array .int)) (by decide)
  have F2_g : Fld Z h2 b2 "com/example/prolong/prolong/tree/DecisionDiagram$Frames" "g" "[I" .null := D2 (Or.inl (hw _ (own_w 80 rfl))) (ty := (.array .int)) (by decide)
  have F2_h : Fld Z h2 b2 "com/example/prolong/prolong/tree/DecisionDiagram$Frames" "h" "[I" .null := D2 (Or.inl (hw _ (own_w 82 rfl))) (ty := (.array .int)) (by decide)
  have F2_variable : Fld Z h2 b2 "com/example/prolong/prolong/tree/DecisionDiagram$Frames" "variable" "[I" .null := D2 (Or.inl (hw _ (own_w 84 rfl))) (ty := (.array .int)) (by decide)
  have F2_high : Fld Z h2 b2 "com/example/prolong/prolong/tree/DecisionDiagram$Frames" "high" "[I" .null := D2 (Or.inl (hw _ (own_w 86 rfl))) (ty := (.array .int)) (by decide)
  have F2_low : Fld Z h2 b2 "com/example/prolong/prolong/tree/DecisionDiagram$Frames" "low" "[I" .null := D2 (Or.inl (hw _ (own_w 88 rfl))) (ty := (.array .int)) (by decide)
  have F2_depth : Fld Z h2 b2 "com/example/prolong/prolong/tree/DecisionDiagram$Frames" "depth" "I" (.int 0) := D2 (Or.inl (hw _ (own_w 103 rfl))) (ty := .int) (by decide)
  have D3 := (hD.ext E2)
  obtain ⟨_, T4, Lc4, X4, hQ4, st4⟩ := own_initRef (W := 1) (y := mN12) X2 hx hZ rfl hown (hw _ (own_w 73 rfl)) (hw _ (own_w 74 rfl)) (hw _ (own_w 75 rfl)) (hw _ (own_w 72 rfl)) (by decide) (rmFI l Z av0 hw [] b2 h2 n0 Z2 A2 ge_b2 F2_depth F2_f F2_g F2_h F2_variable F2_high F2_low) (by decide) (by decide) (g := (mkF m 22 #[rv a0, iv (own_n f), iv (own_n g), iv (own_n gz), iv (-1 : Int32), .unset, .unset, .unset, .unset, .unset, .unset, .unset, .unset, .unset] [(.ref b2), (.ref b2)])) rfl (by rw [hml]; rfl) (a := b2) (argsL := []) (rest := [(.ref b2)]) (lenOf pd__V rfl) rfl (hb hby d9_22) rfl e2 (by decide : 1 + 6 ≤ _) (by decide : 7 + 96 ≤ _)
  obtain ⟨b4bf, b4bg, b4bh, b4bv, b4bi, b4bl, rfl, N4q, K4, gq4, S4, G4⟩ := hQ4
  have N4 := Fr.app N1 N4q
  have e4 : T4.heap = T4.heap := rfl
  have Dk4 := D3.keep K4 (own_dj hD.lt (allS sz_b2 all0))
  have gz4 : ∀ y ∈ [b2, b4bf, b4bg, b4bh, b4bv, b4bi, b4bl], h0.size ≤ y := allS sz_b2 (fun y q => Nat.le_trans K2.1 (gq4 y q))
  have dj4 : ∀ y ∈ [a0, av, al, ah, au, qa, qb, qc, qd], y ∉ [b2, b4bf, b4bg, b4bh, b4bv, b4bi, b4bl] := own_dj hD.lt gz4
  have Zk4 : n0 ≤ T4.heap.size := Nat.le_trans Z2 K4.1
  have Kk4 : Keep h0 T4.heap [a0, av, al, ah, au, qa, qb, qc, qd] := K2.trans K4 (allS (Or.inr (gz4 _ (List.mem_of_getElem? (i := 0) rfl))) all0)
  obtain ⟨_, T5, Lc5, X5, hQ5, st5⟩ := own_private (W := 4) (y := mN9) X4 hx hZ hown (hw _ (own_w 89 rfl)) (hw _ (own_w 4 rfl)) (hw _ (own_w 91 rfl)) (hw _ (own_w 90 rfl)) (hw _ (own_w 92 rfl)) (hw _ (own_w 5 rfl)) (by decide) (rmTop l Z av0 hw [] a0 av al ah au qa qb qc qd vr lw hg uq c1 c2 c3 c4 sz f g gz T4.heap n0 Zk4 Dk4 hf hg' hh') (by decide) (by decide) Dk4.E (g := (mkF m 36 #[rv a0, iv (own_n f), iv (own_n g), iv (own_n gz), iv (-1 : Int32), rv b2, .unset, .unset, .unset, .unset, .unset, .unset, .unset, .unset] [(.int (own_n gz)), (.int (own_n g)), (.int (own_n f)), (.ref a0), (.int (own_n gz)), (.int (own_n g)), (.int (own_n f)), (.ref b2)])) rfl (by rw [hml]; rfl) (argsL := [(.int (own_n f)), (.int (own_n g)), (.int (own_n gz))]) (rest := [(.int (own_n gz)), (.int (own_n g)), (.int (own_n f)), (.ref b2)]) (lenOf pd__III_I rfl) rfl (hb hby d9_36) rfl e4 (by decide : 7 + 0 ≤ _) (by decide : 103 + 0 ≤ _)
  obtain ⟨rfl, N5q, hh5⟩ := hQ5
  have N5 := Fr.app N4 N5q
  have e5 : T5.heap = T4.heap := hh5
  obtain ⟨_, T6, Lc6, X6, hQ6, st6⟩ := own_virtual (W := 0) (y := mN13) (z := mN13) X5 hx hZ hown (hw _ (own_w 97 rfl)) (hw _ (own_w 98 rfl)) (notFace_of_selects (args := #[]) (mvT hZ (hw _ (own_w 100 rfl)))) (hw _ (own_w 100 rfl)) (hw _ (own_w 99 rfl)) (hw _ (own_w 101 rfl)) (hw _ (own_w 72 rfl)) (by decide) (rmPush l Z av0 hw [] b2 b4bf b4bg b4bh b4bv b4bi b4bl (fun _ => 0) (fun _ => 0) (fun _ => 0) (fun _ => 0) (fun _ => 0) (fun _ => 0) 0 (own_n f) (own_n g) (own_n gz) yv T4.heap n0 Zk4 G4 S4 (by decide)) (by decide) (by decide) G4.E (g := (mkF m 39 #[rv a0, iv (own_n f), iv (own_n g), iv (own_n gz), iv (-1 : Int32), rv b2, .unset, .unset, .unset, .unset, .unset, .unset, .unset, .unset] [(.int yv), (.int (own_n gz)), (.int (own_n g)), (.int (own_n f)), (.ref b2)])) rfl (by rw [hml]; rfl) (argsL := [(.int (own_n f)), (.int (own_n g)), (.int (own_n gz)), (.int yv)]) (rest := []) (lenOf pd__IIII_V rfl) rfl (hb hby d9_39) rfl e5 (by decide : 7 + 0 ≤ _) (by decide : 103 + 0 ≤ _)
  obtain ⟨rfl, N6q, K6, G6⟩ := hQ6
  have N6 := Fr.app N5 N6q
  have e6 : T6.heap = T6.heap := rfl
  have Zk6 : n0 ≤ T6.heap.size := Nat.le_trans Zk4 K6.1
  have Kk6 : Keep h0 T6.heap [a0, av, al, ah, au, qa, qb, qc, qd] := Kk4.trans K6 (allS (Or.inr (gz4 _ (List.mem_of_getElem? (i := 0) rfl))) (allS (Or.inr (gz4 _ (List.mem_of_getElem? (i := 1) rfl))) (allS (Or.inr (gz4 _ (List.mem_of_getElem? (i := 2) rfl))) (allS (Or.inr (gz4 _ (List.mem_of_getElem? (i := 3) rfl))) (allS (Or.inr (gz4 _ (List.mem_of_getElem? (i := 4) rfl))) (allS (Or.inr (gz4 _ (List.mem_of_getElem? (i := 5) rfl))) (allS (Or.inr (gz4 _ (List.mem_of_getElem? (i := 6) rfl))) all0)))))))
  have Dk6 := Dk4.keep K6 dj4
  have S7 : ∀ tz, oS p e below T6 (mkF m 45 #[rv a0, iv (own_n f), iv (own_n g), iv (own_n gz), iv (-1 : Int32), rv b2, iv (-1 : Int32), .unset, .unset, .unset, .unset, .unset, .unset, .unset] []) tz → oS p e below s₁ (mkF m 0 #[rv a0, iv (own_n f), iv (own_n g), iv (own_n gz), .unset, .unset, .unset, .unset, .unset, .unset, .unset, .unset, .unset, .unset] []) tz := fun tz kz => id (by
    show oS p e below s₁ (mkF m 0 #[rv a0, iv (own_n f), iv (own_n g), iv (own_n gz), .unset, .unset, .unset, .unset, .unset, .unset, .unset, .unset, .unset, .unset] []) _
    refine XS.aloadN X0.here hx rfl (hb hby d9_0) rfl rfl ?_
    refine XS.iloadN X0.here hx rfl (hb hby d9_1) rfl ?_
    refine XS.iloadN X0.here hx rfl (hb hby d9_2) rfl ?_
    refine XS.iloadN X0.here hx rfl (hb hby d9_3) rfl ?_
    refine st1 _ ?_
    refine XS.istore X1.here hx rfl (hb hby d9_7) rfl (l' := #[rv a0, iv (own_n f), iv (own_n g), iv (own_n gz), iv (-1 : Int32), .unset, .unset, .unset, .unset, .unset, .unset, .unset, .unset, .unset]) rfl ?_
    refine XS.iload X1.here hx rfl (hb hby d9_9) rfl ?_
    refine XT.iconstV X1.here hx rfl (-1 : Int32) (hb hby d9_11) (by decide) ?_
    refine XS.icmpYes X1.here hx rfl (pc0 := 12) (pc' := 18) rfl (hb hby d9_12) rfl (XT.ii_eq_t (by decide)) (by decide) (by decide) ?_
    refine st2 _ ?_
    show oS p e below T2 (mkF m 21 #[rv a0, iv (own_n f), iv (own_n g), iv (own_n gz), iv (-1 : Int32), .unset, .unset, .unset, .unset, .unset, .unset, .unset, .unset, .unset] [(.ref b2)]) _
    refine XS.dup X2.here hx rfl (hb hby d9_21) rfl rfl ?_
    refine st4 _ ?_
    refine XS.astore X4.here hx rfl (hb hby d9_25) rfl rfl (l' := #[rv a0, iv (own_n f), iv (own_n g), iv (own_n gz), iv (-1 : Int32), rv b2, .unset, .unset, .unset, .unset, .unset, .unset, .unset, .unset]) rfl ?_
    refine XS.aload X4.here hx rfl (hb hby d9_27) rfl rfl ?_
    refine XS.iloadN X4.here hx rfl (hb hby d9_29) rfl ?_
    refine XS.iloadN X4.here hx rfl (hb hby d9_30) rfl ?_
    refine XS.iloadN X4.here hx rfl (hb hby d9_31) rfl ?_
    refine XS.aloadN X4.here hx rfl (hb hby d9_32) rfl rfl ?_
    refine XS.iloadN X4.here hx rfl (hb hby d9_33) rfl ?_
    refine XS.iloadN X4.here hx rfl (hb hby d9_34) rfl ?_
    show oS p e below T4 (mkF m 35 #[rv a0, iv (own_n f), iv (own_n g), iv (own_n gz), iv (-1 : Int32), rv b2, .unset, .unset, .unset, .unset, .unset, .unset, .unset, .unset] [(.int (own_n g)), (.int (own_n f)), (.ref a0), (.int (own_n gz)), (.int (own_n g)), (.int (own_n f)), (.ref b2)]) _
    refine XS.iloadN X4.here hx rfl (hb hby d9_35) rfl ?_
    refine st5 _ ?_
    show oS p e below T5 (mkF m 39 #[rv a0, iv (own_n f), iv (own_n g), iv (own_n gz), iv (-1 : Int32), rv b2, .unset, .unset, .unset, .unset, .unset, .unset, .unset, .unset] [(.int (own_min (vr f) (own_min (vr g) (vr gz)))), (.int (own_n gz)), (.int (own_n g)), (.int (own_n f)), (.ref b2)]) _
    rw [htop]
    show oS p e below T5 (mkF m 39 #[rv a0, iv (own_n f), iv (own_n g), iv (own_n gz), iv (-1 : Int32), rv b2, .unset, .unset, .unset, .unset, .unset, .unset, .unset, .unset] [(.int yv), (.int (own_n gz)), (.int (own_n g)), (.int (own_n f)), (.ref b2)]) _
    refine st6 _ ?_
    refine XT.iconstV X6.here hx rfl (-1 : Int32) (hb hby d9_42) (by decide) ?_
    refine XS.istore X6.here hx rfl (hb hby d9_43) rfl (l' := #[rv a0, iv (own_n f), iv (own_n g), iv (own_n gz), iv (-1 : Int32), rv b2, iv (-1 : Int32), .unset, .unset, .unset, .unset, .unset, .unset, .unset]) rfl ?_
    exact kz)
  obtain ⟨T8, _, l8, X8, rfl, N8, K8, D8, G8, st8⟩ := own_B1 a0 av al ah au qa qb qc qd vr lw hg uq c1 c2 c3 c4 sz b2 b4bf b4bg b4bh b4bv b4bi b4bl (own_up (fun _ => 0) 0 (own_n f)) (own_up (fun _ => 0) 0 (own_n g)) (own_up (fun _ => 0) 0 (own_n gz)) (own_up (fun _ => 0) 0 yv) (own_up (fun _ => 0) 0 (-1 : Int32)) (own_up (fun _ => 0) 0 (-1 : Int32)) 0 f g gz yv (iv (own_n f)) (iv (own_n g)) (iv (own_n gz)) (iv (-1 : Int32)) (.unset) (.unset) (.unset) (.unset) (.unset) (.unset) (.unset) f 0 1 yi X6 hx hZ hw hby hml hown e6 N6 Zk6 Dk6 G6 hS S4 dj4 (by decide) (show (own_up (fun _ => 0) 0 (own_n f)) 0 = (own_n f) from by simp [own_up]) (show (own_up (fun _ => 0) 0 (own_n g)) 0 = (own_n g) from by simp [own_up]) (show (own_up (fun _ => 0) 0 (own_n gz)) 0 = (own_n gz) from by simp [own_up]) (show (own_up (fun _ => 0) 0 yv) 0 = yv from by simp [own_up]) hf hg' hh' (Or.inl rfl) (Or.inl rfl) (Or.inl rfl) (Or.inl rfl) (Or.inl rfl) (Or.inl rfl) (Or.inl rfl) (show (own_up (fun _ => 0) 0 (-1 : Int32)) 0 = (-1 : Int32) from by simp [own_up]) ⟨fun q => absurd q hvf, fun _ => rfl⟩ hca hcb (own_f1 hf hf2) (by decide) (own_f0 hf hf2) (by decide) hmi htopi hf (by decide) (by decide)
  have e8 : T8.heap = T8.heap := rfl
  have Zk8 : n0 ≤ T8.heap.size := Nat.le_trans Zk6 K8.1
  have Kk8 : Keep h0 T8.heap [a0, av, al, ah, au, qa, qb, qc, qd] := Kk6.trans K8 (allS (Or.inl (List.mem_of_getElem? (i := 0) rfl)) (allS (Or.inl (List.mem_of_getElem? (i := 1) rfl)) (allS (Or.inl (List.mem_of_getElem? (i := 2) rfl)) (allS (Or.inl (List.mem_of_getElem? (i := 3) rfl)) (allS (Or.inl (List.mem_of_getElem? (i := 4) rfl)) (allS (Or.inl (List.mem_of_getElem? (i := 5) rfl)) (allS (Or.inl (List.mem_of_getElem? (i := 6) rfl)) (allS (Or.inl (List.mem_of_getElem? (i := 7) rfl)) (allS (Or.inl (List.mem_of_getElem? (i := 8) rfl)) (allS (Or.inr (gz4 _ (List.mem_of_getElem? (i := 0) rfl))) (allS (Or.inr (gz4 _ (List.mem_of_getElem? (i := 1) rfl))) (allS (Or.inr (gz4 _ (List.mem_of_getElem? (i := 2) rfl))) (allS (Or.inr (gz4 _ (List.mem_of_getElem? (i := 3) rfl))) (allS (Or.inr (gz4 _ (List.mem_of_getElem? (i := 4) rfl))) (allS (Or.inr (gz4 _ (List.mem_of_getElem? (i := 5) rfl))) (allS (Or.inr (gz4 _ (List.mem_of_getElem? (i := 6) rfl))) all0))))))))))))))))
  have S9 : ∀ tz, oS p e below T8 (mkF m 45 #[rv a0, iv (own_n f), iv (own_n g), iv (own_n gz), iv (-1 : Int32), rv b2, iv (-1 : Int32), iv 0, iv yv, iv 1, iv (own_n f), iv 0, iv 1, iv (-1 : Int32)] []) tz → oS p e below s₁ (mkF m 0 #[rv a0, iv (own_n f), iv (own_n g), iv (own_n gz), .unset, .unset, .unset, .unset, .unset, .unset, .unset, .unset, .unset, .unset] []) tz := fun tz kz => S7 tz (by
    show oS p e below T6 (mkF m 45 #[rv a0, iv (own_n f), iv (own_n g), iv (own_n gz), iv (-1 : Int32), rv b2, iv (-1 : Int32), .unset, .unset, .unset, .unset, .unset, .unset, .unset] []) _
    refine st8 _ ?_
    show oS p e below T8 (mkF m 45 #[rv a0, iv (own_n f), iv (own_n g), iv (own_n gz), iv (-1 : Int32), rv b2, iv (-1 : Int32), iv 0, iv yv, iv 1, iv (own_n f), iv 0, iv 1, iv (-1 : Int32)] []) _
    exact kz)
  obtain ⟨T10, _, l10, X10, rfl, N10, K10, D10, G10, st10⟩ := own_H1 a0 av al ah au qa qb qc qd vr lw hg uq c1 c2 c3 c4 sz b2 b4bf b4bg b4bh b4bv b4bi b4bl (own_up (own_up (fun _ => 0) 0 (own_n f)) 1 (own_n f)) (own_up (own_up (fun _ => 0) 0 (own_n g)) 1 (0 : Int32)) (own_up (own_up (fun _ => 0) 0 (own_n gz)) 1 (1 : Int32)) (own_up (own_up (fun _ => 0) 0 yv) 1 yi) (own_up (own_up (fun _ => 0) 0 (-1 : Int32)) 1 (-1 : Int32)) (own_up (own_up (fun _ => 0) 0 (-1 : Int32)) 1 (-1 : Int32)) 1 f 0 1 yi (iv (own_n f)) (iv (own_n g)) (iv (own_n gz)) (iv (-1 : Int32)) (iv 0) (iv yv) (iv 1) (iv (own_n f)) (iv 0) (iv 1) (iv (-1 : Int32)) 1 0 1 0 X8 hx hZ hw hby hml hown e8 N8 Zk8 D8 G8 hS S4 dj4 (by decide) (show (own_up (own_up (fun _ => 0) 0 (own_n f)) 1 (own_n f)) 1 = (own_n f) from by simp [own_up]) (show (own_up (own_up (fun _ => 0) 0 (own_n g)) 1 (0 : Int32)) 1 = (0 : Int32) from by simp [own_up]) (show (own_up (own_up (fun _ => 0) 0 (own_n gz)) 1 (1 : Int32)) 1 = (1 : Int32) from by simp [own_up]) (show (own_up (own_up (fun _ => 0) 0 yv) 1 yi) 1 = yi from by simp [own_up]) hf (by decide) (by decide) (Or.inr ⟨_, rfl⟩) (Or.inr ⟨_, rfl⟩) (Or.inr ⟨_, rfl⟩) (Or.inr ⟨_, rfl⟩) (Or.inr ⟨_, rfl⟩) (Or.inr ⟨_, rfl⟩) (Or.inr ⟨_, rfl⟩) (show (own_up (own_up (fun _ => 0) 0 (-1 : Int32)) 1 (-1 : Int32)) 1 = (-1 : Int32) from by simp [own_up]) ⟨fun _ => hhf, fun q => absurd hvi q⟩ ⟨fun q => absurd q hv0, fun _ => rfl⟩ ⟨fun q => absurd q hv1, fun _ => rfl⟩ (own_kp1 _ _) (by decide)
  have e10 : T10.heap = T10.heap := rfl
  have Zk10 : n0 ≤ T10.heap.size := Nat.le_trans Zk8 K10.1
  have Kk10 : Keep h0 T10.heap [a0, av, al, ah, au, qa, qb, qc, qd] := Kk8.trans K10 (allS (Or.inl (List.mem_of_getElem? (i := 0) rfl)) (allS (Or.inl (List.mem_of_getElem? (i := 1) rfl)) (allS (Or.inl (List.mem_of_getElem? (i := 2) rfl)) (allS (Or.inl (List.mem_of_getElem? (i := 3) rfl)) (allS (Or.inl (List.mem_of_getElem? (i := 4) rfl)) (allS (Or.inl (List.mem_of_getElem? (i := 5) rfl)) (allS (Or.inl (List.mem_of_getElem? (i := 6) rfl)) (allS (Or.inl (List.mem_of_getElem? (i := 7) rfl)) (allS (Or.inl (List.mem_of_getElem? (i := 8) rfl)) (allS (Or.inr (gz4 _ (List.mem_of_getElem? (i := 0) rfl))) (allS (Or.inr (gz4 _ (List.mem_of_getElem? (i := 1) rfl))) (allS (Or.inr (gz4 _ (List.mem_of_getElem? (i := 2) rfl))) (allS (Or.inr (gz4 _ (List.mem_of_getElem? (i := 3) rfl))) (allS (Or.inr (gz4 _ (List.mem_of_getElem? (i := 4) rfl))) (allS (Or.inr (gz4 _ (List.mem_of_getElem? (i := 5) rfl))) (allS (Or.inr (gz4 _ (List.mem_of_getElem? (i := 6) rfl))) all0))))))))))))))))
  have S11 : ∀ tz, oS p e below T10 (mkF m 45 #[rv a0, iv (own_n f), iv (own_n g), iv (own_n gz), iv (-1 : Int32), rv b2, iv (-1 : Int32), iv 1, iv yi, iv 1, iv 1, iv 0, iv 1, iv 0] []) tz → oS p e below s₁ (mkF m 0 #[rv a0, iv (own_n f), iv (own_n g), iv (own_n gz), .unset, .unset, .unset, .unset, .unset, .unset, .unset, .unset, .unset, .unset] []) tz := fun tz kz => S9 tz (by
    show oS p e below T8 (mkF m 45 #[rv a0, iv (own_n f), iv (own_n g), iv (own_n gz), iv (-1 : Int32), rv b2, iv (-1 : Int32), iv 0, iv yv, iv 1, iv (own_n f), iv 0, iv 1, iv (-1 : Int32)] []) _
    refine st10 _ ?_
    show oS p e below T10 (mkF m 45 #[rv a0, iv (own_n f), iv (own_n g), iv (own_n gz), iv (-1 : Int32), rv b2, iv (-1 : Int32), iv 1, iv yi, iv 1, iv 1, iv 0, iv 1, iv 0] []) _
    exact kz)
  obtain ⟨T12, _, l12, X12, rfl, N12, K12, D12, G12, st12⟩ := own_H0 a0 av al ah au qa qb qc qd vr lw hg uq c1 c2 c3 c4 sz b2 b4bf b4bg b4bh b4bv b4bi b4bl (own_up (own_up (fun _ => 0) 0 (own_n f)) 1 (own_n f)) (own_up (own_up (fun _ => 0) 0 (own_n g)) 1 (0 : Int32)) (own_up (own_up (fun _ => 0) 0 (own_n gz)) 1 (1 : Int32)) (own_up (own_up (fun _ => 0) 0 yv) 1 yi) (own_up (own_up (own_up (fun _ => 0) 0 (-1 : Int32)) 1 (-1 : Int32)) 1 (0 : Int32)) (own_up (own_up (fun _ => 0) 0 (-1 : Int32)) 1 (-1 : Int32)) 1 f 0 1 yi (iv (own_n f)) (iv (own_n g)) (iv (own_n gz)) (iv (-1 : Int32)) (iv 1) (iv yi) (iv 1) (iv 1) (iv 0) (iv 1) (iv 0) 0 0 1 1 X10 hx hZ hw hby hml hown e10 N10 Zk10 D10 G10 hS S4 dj4 (by decide) (show (own_up (own_up (fun _ => 0) 0 (own_n f)) 1 (own_n f)) 1 = (own_n f) from by simp [own_up]) (show (own_up (own_up (fun _ => 0) 0 (own_n g)) 1 (0 : Int32)) 1 = (0 : Int32) from by simp [own_up]) (show (own_up (own_up (fun _ => 0) 0 (own_n gz)) 1 (1 : Int32)) 1 = (1 : Int32) from by simp [own_up]) (show (own_up (own_up (fun _ => 0) 0 yv) 1 yi) 1 = yi from by simp [own_up]) hf (by decide) (by decide) (Or.inr ⟨_, rfl⟩) (Or.inr ⟨_, rfl⟩) (Or.inr ⟨_, rfl⟩) (Or.inr ⟨_, rfl⟩) (Or.inr ⟨_, rfl⟩) (Or.inr ⟨_, rfl⟩) (Or.inr ⟨_, rfl⟩) (fun z => own_nm (i := 0) (by omega) ((show (own_up (own_up (own_up (fun _ => 0) 0 (-1 : Int32)) 1 (-1 : Int32)) 1 (0 : Int32)) 1 = (0 : Int32) from by simp [own_up]).symm.trans z)) (show (own_up (own_up (fun _ => 0) 0 (-1 : Int32)) 1 (-1 : Int32)) 1 = (-1 : Int32) from by simp [own_up]) ⟨fun _ => hlf, fun q => absurd hvi q⟩ ⟨fun q => absurd q hv0, fun _ => rfl⟩ ⟨fun q => absurd q hv1, fun _ => rfl⟩ (own_kp0 _ _ (by decide)) (by decide)
  have e12 : T12.heap = T12.heap := rfl
  have Zk12 : n0 ≤ T12.heap.size := Nat.le_trans Zk10 K12.1
  have Kk12 : Keep h0 T12.heap [a0, av, al, ah, au, qa, qb, qc, qd] := Kk10.trans K12 (allS (Or.inl (List.mem_of_getElem? (i := 0) rfl)) (allS (Or.inl (List.mem_of_getElem? (i := 1) rfl)) (allS (Or.inl (List.mem_of_getElem? (i := 2) rfl)) (allS (Or.inl (List.mem_of_getElem? (i := 3) rfl)) (allS (Or.inl (List.mem_of_getElem? (i := 4) rfl)) (allS (Or.inl (List.mem_of_getElem? (i := 5) rfl)) (allS (Or.inl (List.mem_of_getElem? (i := 6) rfl)) (allS (Or.inl (List.mem_of_getElem? (i := 7) rfl)) (allS (Or.inl (List.mem_of_getElem? (i := 8) rfl)) (allS (Or.inr (gz4 _ (List.mem_of_getElem? (i := 0) rfl))) (allS (Or.inr (gz4 _ (List.mem_of_getElem? (i := 1) rfl))) (allS (Or.inr (gz4 _ (List.mem_of_getElem? (i := 2) rfl))) (allS (Or.inr (gz4 _ (List.mem_of_getElem? (i := 3) rfl))) (allS (Or.inr (gz4 _ (List.mem_of_getElem? (i := 4) rfl))) (allS (Or.inr (gz4 _ (List.mem_of_getElem? (i := 5) rfl))) (allS (Or.inr (gz4 _ (List.mem_of_getElem? (i := 6) rfl))) all0))))))))))))))))
  have S13 : ∀ tz, oS p e below T12 (mkF m 45 #[rv a0, iv (own_n f), iv (own_n g), iv (own_n gz), iv (-1 : Int32), rv b2, iv (-1 : Int32), iv 1, iv yi, iv 0, iv 0, iv 0, iv 1, iv 1] []) tz → oS p e below s₁ (mkF m 0 #[rv a0, iv (own_n f), iv (own_n g), iv (own_n gz), .unset, .unset, .unset, .unset, .unset, .unset, .unset, .unset, .unset, .unset] []) tz := fun tz kz => S11 tz (by
    show oS p e below T10 (mkF m 45 #[rv a0, iv (own_n f), iv (own_n g), iv (own_n gz), iv (-1 : Int32), rv b2, iv (-1 : Int32), iv 1, iv yi, iv 1, iv 1, iv 0, iv 1, iv 0] []) _
    refine st12 _ ?_
    show oS p e below T12 (mkF m 45 #[rv a0, iv (own_n f), iv (own_n g), iv (own_n gz), iv (-1 : Int32), rv b2, iv (-1 : Int32), iv 1, iv yi, iv 0, iv 0, iv 0, iv 1, iv 1] []) _
    exact kz)
  obtain ⟨T14, _, l14, X14, rfl, N14, ⟨k14, hk14, U14, K14, D14, G14⟩, st14⟩ := own_C a0 av al ah au qa qb qc qd vr lw hg uq c1 c2 c3 c4 sz b2 b4bf b4bg b4bh b4bv b4bi b4bl (own_up (own_up (fun _ => 0) 0 (own_n f)) 1 (own_n f)) (own_up (own_up (fun _ => 0) 0 (own_n g)) 1 (0 : Int32)) (own_up (own_up (fun _ => 0) 0 (own_n gz)) 1 (1 : Int32)) (own_up (own_up (fun _ => 0) 0 yv) 1 yi) (own_up (own_up (own_up (fun _ => 0) 0 (-1 : Int32)) 1 (-1 : Int32)) 1 (0 : Int32)) (own_up (own_up (own_up (fun _ => 0) 0 (-1 : Int32)) 1 (-1 : Int32)) 1 (1 : Int32)) 1 f 0 1 yi (iv (own_n f)) (iv (own_n g)) (iv (own_n gz)) (iv (-1 : Int32)) (iv 1) (iv yi) (iv 0) (iv 0) (iv 0) (iv 1) (iv 1) 0 1 X12 hx hZ hw hby hml hown e12 N12 Zk12 D12 G12 hS S4 dj4 (by decide) (show (own_up (own_up (fun _ => 0) 0 (own_n f)) 1 (own_n f)) 1 = (own_n f) from by simp [own_up]) (show (own_up (own_up (fun _ => 0) 0 (own_n g)) 1 (0 : Int32)) 1 = (0 : Int32) from by simp [own_up]) (show (own_up (own_up (fun _ => 0) 0 (own_n gz)) 1 (1 : Int32)) 1 = (1 : Int32) from by simp [own_up]) (show (own_up (own_up (fun _ => 0) 0 yv) 1 yi) 1 = yi from by simp [own_up]) hf (by decide) (by decide) (Or.inr ⟨_, rfl⟩) (Or.inr ⟨_, rfl⟩) (Or.inr ⟨_, rfl⟩) (Or.inr ⟨_, rfl⟩) (Or.inr ⟨_, rfl⟩) (Or.inr ⟨_, rfl⟩) (Or.inr ⟨_, rfl⟩) hU htwo hsz (show (own_up (own_up (own_up (fun _ => 0) 0 (-1 : Int32)) 1 (-1 : Int32)) 1 (0 : Int32)) 1 = (0 : Int32) from by simp [own_up]) (show (own_up (own_up (own_up (fun _ => 0) 0 (-1 : Int32)) 1 (-1 : Int32)) 1 (1 : Int32)) 1 = (1 : Int32) from by simp [own_up]) (by decide) (by decide) (by decide) hmisi
  have e14 : T14.heap = T14.heap := rfl
  have Zk14 : n0 ≤ T14.heap.size := Nat.le_trans Zk12 K14.1
  have Kk14 : Keep h0 T14.heap [a0, av, al, ah, au, qa, qb, qc, qd] := Kk12.trans K14 (allS (Or.inl (List.mem_of_getElem? (i := 0) rfl)) (allS (Or.inl (List.mem_of_getElem? (i := 1) rfl)) (allS (Or.inl (List.mem_of_getElem? (i := 2) rfl)) (allS (Or.inl (List.mem_of_getElem? (i := 3) rfl)) (allS (Or.inl (List.mem_of_getElem? (i := 4) rfl)) (allS (Or.inl (List.mem_of_getElem? (i := 5) rfl)) (allS (Or.inl (List.mem_of_getElem? (i := 6) rfl)) (allS (Or.inl (List.mem_of_getElem? (i := 7) rfl)) (allS (Or.inl (List.mem_of_getElem? (i := 8) rfl)) (allS (Or.inr (gz4 _ (List.mem_of_getElem? (i := 0) rfl))) (allS (Or.inr (gz4 _ (List.mem_of_getElem? (i := 1) rfl))) (allS (Or.inr (gz4 _ (List.mem_of_getElem? (i := 2) rfl))) (allS (Or.inr (gz4 _ (List.mem_of_getElem? (i := 3) rfl))) (allS (Or.inr (gz4 _ (List.mem_of_getElem? (i := 4) rfl))) (allS (Or.inr (gz4 _ (List.mem_of_getElem? (i := 5) rfl))) (allS (Or.inr (gz4 _ (List.mem_of_getElem? (i := 6) rfl))) all0))))))))))))))))
  have S15 : ∀ tz, oS p e below T14 (mkF m 286 #[rv a0, iv (own_n f), iv (own_n g), iv (own_n gz), iv (-1 : Int32), rv b2, iv (-1 : Int32), iv 1, iv yi, iv (own_n sz), iv 0, iv 0, iv 1, iv 1] []) tz → oS p e below s₁ (mkF m 0 #[rv a0, iv (own_n f), iv (own_n g), iv (own_n gz), .unset, .unset, .unset, .unset, .unset, .unset, .unset, .unset, .unset, .unset] []) tz := fun tz kz => S13 tz (by
    show oS p e below T12 (mkF m 45 #[rv a0, iv (own_n f), iv (own_n g), iv (own_n gz), iv (-1 : Int32), rv b2, iv (-1 : Int32), iv 1, iv yi, iv 0, iv 0, iv 0, iv 1, iv 1] []) _
    refine st14 _ ?_
    show oS p e below T14 (mkF m 286 #[rv a0, iv (own_n f), iv (own_n g), iv (own_n gz), iv (-1 : Int32), rv b2, iv (-1 : Int32), iv 1, iv yi, iv (own_n sz), iv 0, iv 0, iv 1, iv 1] []) _
    exact kz)
  obtain ⟨T16, _, l16, X16, rfl, N16, K16, D16, G16, st16⟩ := own_S1 a0 av al ah au qa qb qc qd (own_up vr sz yi) (own_up lw sz (1 : Int32)) (own_up hg sz (0 : Int32)) (own_up uq k14 (own_n sz)) (own_up c1 (own_cs (own_n f) (0 : Int32) (1 : Int32)) (own_n f)) (own_up c2 (own_cs (own_n f) (0 : Int32) (1 : Int32)) (0 : Int32)) (own_up c3 (own_cs (own_n f) (0 : Int32) (1 : Int32)) (1 : Int32)) (own_up c4 (own_cs (own_n f) (0 : Int32) (1 : Int32)) (own_n sz)) (sz + 1) b2 b4bf b4bg b4bh b4bv b4bi b4bl (own_up (own_up (fun _ => 0) 0 (own_n f)) 1 (own_n f)) (own_up (own_up (fun _ => 0) 0 (own_n g)) 1 (0 : Int32)) (own_up (own_up (fun _ => 0) 0 (own_n gz)) 1 (1 : Int32)) (own_up (own_up (fun _ => 0) 0 yv) 1 yi) (own_up (own_up (own_up (fun _ => 0) 0 (-1 : Int32)) 1 (-1 : Int32)) 1 (0 : Int32)) (own_up (own_up (own_up (fun _ => 0) 0 (-1 : Int32)) 1 (-1 : Int32)) 1 (1 : Int32)) 0 sz (iv (own_n f)) (iv (own_n g)) (iv (own_n gz)) (iv (-1 : Int32)) (iv 1) (iv yi) (iv 0) (iv 0) (iv 1) (iv 1) X14 hx hZ hw hby hml hown e14 N14 Zk14 D14 G14 hS S4 dj4 (by decide) (show (own_up (own_up (own_up (fun _ => 0) 0 (-1 : Int32)) 1 (-1 : Int32)) 1 (0 : Int32)) 0 = (-1 : Int32) from by simp [own_up])
  have e16 : T16.heap = T16.heap := rfl
  have Zk16 : n0 ≤ T16.heap.size := Nat.le_trans Zk14 K16.1
  have Kk16 : Keep h0 T16.heap [a0, av, al, ah, au, qa, qb, qc, qd] := Kk14.trans K16 (allS (Or.inl (List.mem_of_getElem? (i := 0) rfl)) (allS (Or.inl (List.mem_of_getElem? (i := 1) rfl)) (allS (Or.inl (List.mem_of_getElem? (i := 2) rfl)) (allS (Or.inl (List.mem_of_getElem? (i := 3) rfl)) (allS (Or.inl (List.mem_of_getElem? (i := 4) rfl)) (allS (Or.inl (List.mem_of_getElem? (i := 5) rfl)) (allS (Or.inl (List.mem_of_getElem? (i := 6) rfl)) (allS (Or.inl (List.mem_of_getElem? (i := 7) rfl)) (allS (Or.inl (List.mem_of_getElem? (i := 8) rfl)) (allS (Or.inr (gz4 _ (List.mem_of_getElem? (i := 0) rfl))) (allS (Or.inr (gz4 _ (List.mem_of_getElem? (i := 1) rfl))) (allS (Or.inr (gz4 _ (List.mem_of_getElem? (i := 2) rfl))) (allS (Or.inr (gz4 _ (List.mem_of_getElem? (i := 3) rfl))) (allS (Or.inr (gz4 _ (List.mem_of_getElem? (i := 4) rfl))) (allS (Or.inr (gz4 _ (List.mem_of_getElem? (i := 5) rfl))) (allS (Or.inr (gz4 _ (List.mem_of_getElem? (i := 6) rfl))) all0))))))))))))))))
  have S17 : ∀ tz, oS p e below T16 (mkF m 45 #[rv a0, iv (own_n f), iv (own_n g), iv (own_n gz), iv (-1 : Int32), rv b2, iv (-1 : Int32), iv 1, iv yi, iv (own_n sz), iv 0, iv 0, iv 1, iv 1] []) tz → oS p e below s₁ (mkF m 0 #[rv a0, iv (own_n f), iv (own_n g), iv (own_n gz), .unset, .unset, .unset, .unset, .unset, .unset, .unset, .unset, .unset, .unset] []) tz := fun tz kz => S15 tz (by
    show oS p e below T14 (mkF m 286 #[rv a0, iv (own_n f), iv (own_n g), iv (own_n gz), iv (-1 : Int32), rv b2, iv (-1 : Int32), iv 1, iv yi, iv (own_n sz), iv 0, iv 0, iv 1, iv 1] []) _
    refine st16 _ ?_
    show oS p e below T16 (mkF m 45 #[rv a0, iv (own_n f), iv (own_n g), iv (own_n gz), iv (-1 : Int32), rv b2, iv (-1 : Int32), iv 1, iv yi, iv (own_n sz), iv 0, iv 0, iv 1, iv 1] []) _
    exact kz)
  obtain ⟨T18, _, l18, X18, rfl, N18, K18, D18, G18, st18⟩ := own_H0 a0 av al ah au qa qb qc qd (own_up vr sz yi) (own_up lw sz (1 : Int32)) (own_up hg sz (0 : Int32)) (own_up uq k14 (own_n sz)) (own_up c1 (own_cs (own_n f) (0 : Int32) (1 : Int32)) (own_n f)) (own_up c2 (own_cs (own_n f) (0 : Int32) (1 : Int32)) (0 : Int32)) (own_up c3 (own_cs (own_n f) (0 : Int32) (1 : Int32)) (1 : Int32)) (own_up c4 (own_cs (own_n f) (0 : Int32) (1 : Int32)) (own_n sz)) (sz + 1) b2 b4bf b4bg b4bh b4bv b4bi b4bl (own_up (own_up (fun _ => 0) 0 (own_n f)) 1 (own_n f)) (own_up (own_up (fun _ => 0) 0 (own_n g)) 1 (0 : Int32)) (own_up (own_up (fun _ => 0) 0 (own_n gz)) 1 (1 : Int32)) (own_up (own_up (fun _ => 0) 0 yv) 1 yi) (own_up (own_up (own_up (own_up (fun _ => 0) 0 (-1 : Int32)) 1 (-1 : Int32)) 1 (0 : Int32)) 0 (own_n sz)) (own_up (own_up (own_up (fun _ => 0) 0 (-1 : Int32)) 1 (-1 : Int32)) 1 (1 : Int32)) 0 f g gz yv (iv (own_n f)) (iv (own_n g)) (iv (own_n gz)) (iv (-1 : Int32)) (iv 1) (iv yi) (iv (own_n sz)) (iv 0) (iv 0) (iv 1) (iv 1) f xc xd rb X16 hx hZ hw hby hml hown e16 N16 Zk16 D16 G16 hS S4 dj4 (by decide) (show (own_up (own_up (fun _ => 0) 0 (own_n f)) 1 (own_n f)) 0 = (own_n f) from by simp [own_up]) (show (own_up (own_up (fun _ => 0) 0 (own_n g)) 1 (0 : Int32)) 0 = (own_n g) from by simp [own_up]) (show (own_up (own_up (fun _ => 0) 0 (own_n gz)) 1 (1 : Int32)) 0 = (own_n gz) from by simp [own_up]) (show (own_up (own_up (fun _ => 0) 0 yv) 1 yi) 0 = yv from by simp [own_up]) hf hg' hh' (Or.inr ⟨_, rfl⟩) (Or.inr ⟨_, rfl⟩) (Or.inr ⟨_, rfl⟩) (Or.inr ⟨_, rfl⟩) (Or.inr ⟨_, rfl⟩) (Or.inr ⟨_, rfl⟩) (Or.inr ⟨_, rfl⟩) (fun z => own_nm (i := sz) (by omega) ((show (own_up (own_up (own_up (own_up (fun _ => 0) 0 (-1 : Int32)) 1 (-1 : Int32)) 1 (0 : Int32)) 0 (own_n sz)) 0 = (own_n sz) from by simp [own_up]).symm.trans z)) (show (own_up (own_up (own_up (fun _ => 0) 0 (-1 : Int32)) 1 (-1 : Int32)) 1 (1 : Int32)) 0 = (-1 : Int32) from by simp [own_up]) (own_coup (by omega) ⟨fun q => absurd q hvf, fun _ => rfl⟩) (own_coup (by omega) hcc) (own_coup (by omega) hcd) hKb hrb
  have e18 : T18.heap = T18.heap := rfl
  have Zk18 : n0 ≤ T18.heap.size := Nat.le_trans Zk16 K18.1
  have Kk18 : Keep h0 T18.heap [a0, av, al, ah, au, qa, qb, qc, qd] := Kk16.trans K18 (allS (Or.inl (List.mem_of_getElem? (i := 0) rfl)) (allS (Or.inl (List.mem_of_getElem? (i := 1) rfl)) (allS (Or.inl (List.mem_of_getElem? (i := 2) rfl)) (allS (Or.inl (List.mem_of_getElem? (i := 3) rfl)) (allS (Or.inl (List.mem_of_getElem? (i := 4) rfl)) (allS (Or.inl (List.mem_of_getElem? (i := 5) rfl)) (allS (Or.inl (List.mem_of_getElem? (i := 6) rfl)) (allS (Or.inl (List.mem_of_getElem? (i := 7) rfl)) (allS (Or.inl (List.mem_of_getElem? (i := 8) rfl)) (allS (Or.inr (gz4 _ (List.mem_of_getElem? (i := 0) rfl))) (allS (Or.inr (gz4 _ (List.mem_of_getElem? (i := 1) rfl))) (allS (Or.inr (gz4 _ (List.mem_of_getElem? (i := 2) rfl))) (allS (Or.inr (gz4 _ (List.mem_of_getElem? (i := 3) rfl))) (allS (Or.inr (gz4 _ (List.mem_of_getElem? (i := 4) rfl))) (allS (Or.inr (gz4 _ (List.mem_of_getElem? (i := 5) rfl))) (allS (Or.inr (gz4 _ (List.mem_of_getElem? (i := 6) rfl))) all0))))))))))))))))
  have S19 : ∀ tz, oS p e below T18 (mkF m 45 #[rv a0, iv (own_n f), iv (own_n g), iv (own_n gz), iv (-1 : Int32), rv b2, iv (-1 : Int32), iv 0, iv yv, iv 0, iv (own_n f), iv (own_n xc), iv (own_n xd), iv (own_n rb)] []) tz → oS p e below s₁ (mkF m 0 #[rv a0, iv (own_n f), iv (own_n g), iv (own_n gz), .unset, .unset, .unset, .unset, .unset, .unset, .unset, .unset, .unset, .unset] []) tz := fun tz kz => S17 tz (by
    show oS p e below T16 (mkF m 45 #[rv a0, iv (own_n f), iv (own_n g), iv (own_n gz), iv (-1 : Int32), rv b2, iv (-1 : Int32), iv 1, iv yi, iv (own_n sz), iv 0, iv 0, iv 1, iv 1] []) _
    refine st18 _ ?_
    show oS p e below T18 (mkF m 45 #[rv a0, iv (own_n f), iv (own_n g), iv (own_n gz), iv (-1 : Int32), rv b2, iv (-1 : Int32), iv 0, iv yv, iv 0, iv (own_n f), iv (own_n xc), iv (own_n xd), iv (own_n rb)] []) _
    exact kz)
  obtain ⟨T20, _, l20, X20, rfl, N20, ⟨k20, hk20, U20, K20, D20, G20⟩, st20⟩ := own_C a0 av al ah au qa qb qc qd (own_up vr sz yi) (own_up lw sz (1 : Int32)) (own_up hg sz (0 : Int32)) (own_up uq k14 (own_n sz)) (own_up c1 (own_cs (own_n f) (0 : Int32) (1 : Int32)) (own_n f)) (own_up c2 (own_cs (own_n f) (0 : Int32) (1 : Int32)) (0 : Int32)) (own_up c3 (own_cs (own_n f) (0 : Int32) (1 : Int32)) (1 : Int32)) (own_up c4 (own_cs (own_n f) (0 : Int32) (1 : Int32)) (own_n sz)) (sz + 1) b2 b4bf b4bg b4bh b4bv b4bi b4bl (own_up (own_up (fun _ => 0) 0 (own_n f)) 1 (own_n f)) (own_up (own_up (fun _ => 0) 0 (own_n g)) 1 (0 : Int32)) (own_up (own_up (fun _ => 0) 0 (own_n gz)) 1 (1 : Int32)) (own_up (own_up (fun _ => 0) 0 yv) 1 yi) (own_up (own_up (own_up (own_up (fun _ => 0) 0 (-1 : Int32)) 1 (-1 : Int32)) 1 (0 : Int32)) 0 (own_n sz)) (own_up (own_up (own_up (own_up (fun _ => 0) 0 (-1 : Int32)) 1 (-1 : Int32)) 1 (1 : Int32)) 0 (own_n rb)) 0 f g gz yv (iv (own_n f)) (iv (own_n g)) (iv (own_n gz)) (iv (-1 : Int32)) (iv 0) (iv yv) (iv 0) (iv (own_n f)) (iv (own_n xc)) (iv (own_n xd)) (iv (own_n rb)) sz rb X18 hx hZ hw hby hml hown e18 N18 Zk18 D18 G18 hS S4 dj4 (by decide) (show (own_up (own_up (fun _ => 0) 0 (own_n f)) 1 (own_n f)) 0 = (own_n f) from by simp [own_up]) (show (own_up (own_up (fun _ => 0) 0 (own_n g)) 1 (0 : Int32)) 0 = (own_n g) from by simp [own_up]) (show (own_up (own_up (fun _ => 0) 0 (own_n gz)) 1 (1 : Int32)) 0 = (own_n gz) from by simp [own_up]) (show (own_up (own_up (fun _ => 0) 0 yv) 1 yi) 0 = yv from by simp [own_up]) hf hg' hh' (Or.inr ⟨_, rfl⟩) (Or.inr ⟨_, rfl⟩) (Or.inr ⟨_, rfl⟩) (Or.inr ⟨_, rfl⟩) (Or.inr ⟨_, rfl⟩) (Or.inr ⟨_, rfl⟩) (Or.inr ⟨_, rfl⟩) U14 (by omega) (by omega) (show (own_up (own_up (own_up (own_up (fun _ => 0) 0 (-1 : Int32)) 1 (-1 : Int32)) 1 (0 : Int32)) 0 (own_n sz)) 0 = (own_n sz) from by simp [own_up]) (show (own_up (own_up (own_up (own_up (fun _ => 0) 0 (-1 : Int32)) 1 (-1 : Int32)) 1 (1 : Int32)) 0 (own_n rb)) 0 = (own_n rb) from by simp [own_up]) (by omega) hrb hrs (own_misup hmis hyi)
  have e20 : T20.heap = T20.heap := rfl
  have Zk20 : n0 ≤ T20.heap.size := Nat.le_trans Zk18 K20.1
  have Kk20 : Keep h0 T20.heap [a0, av, al, ah, au, qa, qb, qc, qd] := Kk18.trans K20 (allS (Or.inl (List.mem_of_getElem? (i := 0) rfl)) (allS (Or.inl (List.mem_of_getElem? (i := 1) rfl)) (allS (Or.inl (List.mem_of_getElem? (i := 2) rfl)) (allS (Or.inl (List.mem_of_getElem? (i := 3) rfl)) (allS (Or.inl (List.mem_of_getElem? (i := 4) rfl)) (allS (Or.inl (List.mem_of_getElem? (i := 5) rfl)) (allS (Or.inl (List.mem_of_getElem? (i := 6) rfl)) (allS (Or.inl (List.mem_of_getElem? (i := 7) rfl)) (allS (Or.inl (List.mem_of_getElem? (i := 8) rfl)) (allS (Or.inr (gz4 _ (List.mem_of_getElem? (i := 0) rfl))) (allS (Or.inr (gz4 _ (List.mem_of_getElem? (i := 1) rfl))) (allS (Or.inr (gz4 _ (List.mem_of_getElem? (i := 2) rfl))) (allS (Or.inr (gz4 _ (List.mem_of_getElem? (i := 3) rfl))) (allS (Or.inr (gz4 _ (List.mem_of_getElem? (i := 4) rfl))) (allS (Or.inr (gz4 _ (List.mem_of_getElem? (i := 5) rfl))) (allS (Or.inr (gz4 _ (List.mem_of_getElem? (i := 6) rfl))) all0))))))))))))))))
  obtain ⟨T21, X21, e21, st21⟩ := getF X20 hx hZ hown (host := "") (Or.inl (hw _ (own_w 104 rfl))) Via.refl e20 G20.Fs (g := (mkF m 288 #[rv a0, iv (own_n f), iv (own_n g), iv (own_n gz), iv (-1 : Int32), rv b2, iv (-1 : Int32), iv 0, iv yv, iv ((own_n (sz + 1))), iv (own_n f), iv (own_n xc), iv (own_n xd), iv (own_n rb)] [(.ref b2)])) rfl rfl (hb hby d9_288)
  have S22 : ∀ tz, oS p e below T21 (mkF m 320 #[rv a0, iv (own_n f), iv (own_n g), iv (own_n gz), iv (-1 : Int32), rv b2, iv ((own_n (sz + 1))), iv 0, iv yv, iv ((own_n (sz + 1))), iv (own_n f), iv (own_n xc), iv (own_n xd), iv (own_n rb)] [(.int (own_n (sz + 1)))]) tz → oS p e below s₁ (mkF m 0 #[rv a0, iv (own_n f), iv (own_n g), iv (own_n gz), .unset, .unset, .unset, .unset, .unset, .unset, .unset, .unset, .unset, .unset] []) tz := fun tz kz => S19 tz (by
    show oS p e below T18 (mkF m 45 #[rv a0, iv (own_n f), iv (own_n g), iv (own_n gz), iv (-1 : Int32), rv b2, iv (-1 : Int32), iv 0, iv yv, iv 0, iv (own_n f), iv (own_n xc), iv (own_n xd), iv (own_n rb)] []) _
    refine st20 _ ?_
    show oS p e below T20 (mkF m 286 #[rv a0, iv (own_n f), iv (own_n g), iv (own_n gz), iv (-1 : Int32), rv b2, iv (-1 : Int32), iv 0, iv yv, iv ((own_n (sz + 1))), iv (own_n f), iv (own_n xc), iv (own_n xd), iv (own_n rb)] []) _
    refine XS.aload X20.here hx rfl (hb hby d9_286) rfl rfl ?_
    refine st21 _ ?_
    refine XS.ifNo X21.here hx rfl (hb hby d9_291) rfl (XT.i0_ne_f (by decide)) ?_
    refine XS.iload X21.here hx rfl (hb hby d9_294) rfl ?_
    refine XS.istore X21.here hx rfl (hb hby d9_296) rfl (l' := #[rv a0, iv (own_n f), iv (own_n g), iv (own_n gz), iv (-1 : Int32), rv b2, iv ((own_n (sz + 1))), iv 0, iv yv, iv ((own_n (sz + 1))), iv (own_n f), iv (own_n xc), iv (own_n xd), iv (own_n rb)]) rfl ?_
    refine XS.goto X21.here hx rfl (pc0 := 298) (pc' := 315) rfl (hb hby d9_298) (by decide) (by decide) ?_
    refine XS.goto X21.here hx rfl (pc0 := 315) (pc' := 45) rfl (hb hby d9_315) (by decide) (by decide) ?_
    show oS p e below T21 (mkF m 45 #[rv a0, iv (own_n f), iv (own_n g), iv (own_n gz), iv (-1 : Int32), rv b2, iv ((own_n (sz + 1))), iv 0, iv yv, iv ((own_n (sz + 1))), iv (own_n f), iv (own_n xc), iv (own_n xd), iv (own_n rb)] []) _
    refine XS.iload X21.here hx rfl (hb hby d9_45) rfl ?_
    refine XT.iconstV X21.here hx rfl (-1 : Int32) (hb hby d9_47) (by decide) ?_
    refine XS.icmpYes X21.here hx rfl (pc0 := 48) (pc' := 318) rfl (hb hby d9_48) rfl (XT.ii_ne_t (own_nm (i := (sz + 1)) (by omega))) (by decide) (by decide) ?_
    refine XS.iload X21.here hx rfl (hb hby d9_318) rfl ?_
    exact kz)
  obtain ⟨fs, hr, hrun, hended, hW, hsame⟩ := X21.leave (v := some (.int (own_n (sz + 1)))) (fun h => by rw [Bd.returns] at h; cases h)
  refine ⟨_, _, pre0 _ (S22 _ ?_), hrun, hended, _, _, rfl, ?_, ⟨_, rfl⟩, hW, hsame.mono (by decide) (by decide)⟩
  · exact retI X21 hx Bd.returns (hb hby d9_320) hr
  · show QrmIteBP Z a0 av al ah au qa qb qc qd vr lw hg uq c1 c2 c3 c4 sz f g gz yv xc xd rb yi h0 n0 _ T21.heap _
    rw [e21]
    exact ⟨_, _, _, _, _, rfl, N20, Kk20, D20⟩
def QrmItePB (Z : State) (a0 : Addr) (av : Addr) (al : Addr) (ah : Addr) (au : Addr) (qa : Addr) (qb : Addr) (qc : Addr) (qd : Addr) (vr : Nat → Int32) (lw : Nat → Int32) (hg : Nat → Int32) (uq : Nat → Int32) (c1 : Nat → Int32) (c2 : Nat → Int32) (c3 : Nat → Int32) (c4 : Nat → Int32) (sz : Nat) (f : Nat) (g : Nat) (gz : Nat) (yv : Int32) (xa : Nat) (xb : Nat) (ra : Nat) (yi : Int32) (h0 : Heap) (n0 : Nat) (v : Option Value) (h : Heap) (L : List Loc) : Prop := ∃ uq' c1' c2' c3' c4' : Nat → Int32, v = some (.int (own_n (sz + 1))) ∧ Fr n0 L ∧ Keep h0 h [a0, av, al, ah, au, qa, qb, qc, qd] ∧ own_Dia Z h a0 av al ah au qa qb qc qd (own_up (own_up vr sz yi) (sz + 1) yv) (own_up (own_up lw sz (own_n 1)) (sz + 1) (own_n sz)) (own_up (own_up hg sz (own_n 0)) (sz + 1) (own_n ra)) uq' c1' c2' c3' c4' (sz + 1 + 1)
set_option maxRecDepth 65536 in
set_option maxHeartbeats 40000000 in
theorem rmItePB (l : Launch) (Z : State) (av0 : Array Value) (hw : ∀ d ∈ tables_1, d.before av0 Z = true) (ws : List Jvm.Cond) (a0 : Addr) (av : Addr) (al : Addr) (ah : Addr) (au : Addr) (qa : Addr) (qb : Addr) (qc : Addr) (qd : Addr) (vr : Nat → Int32) (lw : Nat → Int32) (hg : Nat → Int32) (uq : Nat → Int32) (c1 : Nat → Int32) (c2 : Nat → Int32) (c3 : Nat → Int32) (c4 : Nat → Int32) (sz : Nat) (f : Nat) (g : Nat) (gz : Nat) (yv : Int32) (xa : Nat) (xb : Nat) (ra : Nat) (yi : Int32) (h0 : Heap) (n0 : Nat) (Z0 : n0 ≤ h0.size) (hD : own_Dia Z h0 a0 av al ah au qa qb qc qd vr lw hg uq c1 c2 c3 c4 sz) (hS : own_Sep n0 [a0, av, al, ah, au, qa, qb, qc, qd]) (hU : own_UI uq sz) (htwo : 2 ≤ sz) (hsz : sz < 900) (hf : f < 1000) (hg' : g < 1000) (hh' : gz < 1000) (htop : own_min (vr f) (own_min (vr g) (vr gz)) = yv) (hf2 : 2 ≤ f) (hgh : ¬ g = gz) (hnt : ¬ (g = 1 ∧ gz = 0)) (hm : ¬ c1 (own_cs (own_n f) (own_n g) (own_n gz)) = own_n f) (hsz2 : sz < 800) (hvf : ¬ vr f = yv) (hfs : f < sz) (hgs : g < sz) (hhs : gz < sz) (hca : (vr g = yv → hg g = own_n xa) ∧ (¬ vr g = yv → g = xa)) (hcb : (vr gz = yv → hg gz = own_n xb) ∧ (¬ vr gz = yv → gz = xb)) (hcc : (vr g = yv → lw g = own_n 0) ∧ (¬ vr g = yv → g = 0)) (hcd : (vr gz = yv → lw gz = own_n 1) ∧ (¬ vr gz = yv → gz = 1)) (hKa : own_KP (own_n f) (own_n xa) (own_n xb) (own_n ra)) (hra : ra < 1000) (hrs : ¬ sz = ra) (hmis : ∀ n, 2 ≤ n → n < sz → ¬ (vr n = yv ∧ lw n = own_n sz ∧ hg n = own_n ra)) (hvi : vr f = yi) (hyi : ¬ yi = yv) (hhf : hg f = own_n 1) (hlf : lw f = own_n 0) (hv0 : ¬ vr 0 = yi) (hv1 : ¬ vr 1 = yi) (hmi : ¬ c1 (own_cs (own_n f) (own_n 0) (own_n 1)) = own_n f) (htopi : own_min (vr f) (own_min (vr 0) (vr 1)) = yi) (hmisi : ∀ n, 2 ≤ n → n < sz → ¬ (vr n = yi ∧ lw n = own_n 1 ∧ hg n = own_n 0)) :
    own_Met l mN15 prog_72_method_3_code 14 (some .int) ws ({ frames := 3, cells := 7, slots := 103, locals := 48 } : Room) #[(.ref a0), (.int (own_n f)), (.int (own_n g)), (.int (own_n gz))] Z h0 (QrmItePB Z a0 av al ah au qa qb qc qd vr lw hg uq c1 c2 c3 c4 sz f g gz yv xa xb ra yi h0 n0) := by
  refine MetFree.of_bodySF (plainFor_of_name pn_DecisionDiagram) hisR ?_
  intro p e s m args below meth c s₁ Bd hml0 hP hK
  obtain ⟨rfl, hZ, hh⟩ := hP
  have hml : c.maxLocals = 14 := hml0
  obtain ⟨hx, hby, hown, hnm, X0, e0⟩ := own_start Bd hml0 hh
  have N0 := Fr.nil n0
  have pre0 : ∀ tz, oS p e below s₁ (mkF m 0 #[rv a0, iv (own_n f), iv (own_n g), iv (own_n gz), .unset, .unset, .unset, .unset, .unset, .unset, .unset, .unset, .unset, .unset] []) tz → Steps p.tables e below (s₁.setTop (entryFrame m #[(.ref a0), (.int (own_n f)), (.int (own_n g)), (.int (own_n gz))] 14)) tz := fun tz kz => castTop (by first | (simp [entryFrame, mkF, argsToLocals, Value.category]; done) | rfl) kz
  obtain ⟨_, T1, Lc1, X1, hQ1, st1⟩ := own_private (W := 0) (y := mN7) X0 hx hZ hown (hw _ (own_w 62 rfl)) (hw _ (own_w 4 rfl)) (hw _ (own_w 64 rfl)) (hw _ (own_w 63 rfl)) (hw _ (own_w 65 rfl)) (hw _ (own_w 5 rfl)) (by decide) (rmKM l Z av0 hw [] a0 av al ah au qa qb qc qd vr lw hg uq c1 c2 c3 c4 sz (own_n f) (own_n g) (own_n gz) h0 n0 Z0 hD (own_f1 hf hf2) (own_nne (by omega) (by omega) hgh) (own_f0 hf hf2) (own_n10 hg' hh' hnt) hm) (by decide) (by decide) hD.E (g := (mkF m 4 #[rv a0, iv (own_n f), iv (own_n g), iv (own_n gz), .unset, .unset, .unset, .unset, .unset, .unset, .unset, .unset, .unset, .unset] [(.int (own_n gz)), (.int (own_n g)), (.int (own_n f)), (.ref a0)])) rfl (by rw [hml]; rfl) (argsL := [(.int (own_n f)), (.int (own_n g)), (.int (own_n gz))]) (rest := []) (lenOf pd__III_I rfl) rfl (hb hby d9_4) rfl e0 (by decide : 0 + 0 ≤ _) (by decide : 0 + 0 ≤ _)
  obtain ⟨rfl, N1q, hh1⟩ := hQ1
  have N1 := Fr.app N0 N1q
  have e1 : T1.heap = h0 := hh1
  obtain ⟨T2, h2, X2, e2, E2, A2, D2, -, st2⟩ := newO X1 hx hZ hown (hw _ (own_w 70 rfl)) (hw _ (own_w 71 rfl)) (hw _ (own_w 72 rfl)) e1 (g := (mkF m 18 #[rv a0, iv (own_n f), iv (own_n g), iv (own_n gz), iv (-1 : Int32), .unset, .unset, .unset, .unset, .unset, .unset, .unset, .unset, .unset] [])) rfl (hb hby d9_18) (by decide) (by decide)
  obtain ⟨b2, g2⟩ : ∃ z, z = h0.size := ⟨_, rfl⟩
  rw [← g2] at A2 D2 st2
  have ne_a0_b2 : a0 ≠ b2 := Nat.ne_of_lt (Nat.lt_of_lt_of_le hD.E.lt (Nat.le_of_eq g2.symm))
  have ne_ah_b2 : ah ≠ b2 := Nat.ne_of_lt (Nat.lt_of_lt_of_le hD.Aah.lt (Nat.le_of_eq g2.symm))
  have ne_al_b2 : al ≠ b2 := Nat.ne_of_lt (Nat.lt_of_lt_of_le hD.Aal.lt (Nat.le_of_eq g2.symm))
  have ne_au_b2 : au ≠ b2 := Nat.ne_of_lt (Nat.lt_of_lt_of_le hD.Aau.lt (Nat.le_of_eq g2.symm))
  have ne_av_b2 : av ≠ b2 := Nat.ne_of_lt (Nat.lt_of_lt_of_le hD.Aav.lt (Nat.le_of_eq g2.symm))
  have ne_qa_b2 : qa ≠ b2 := Nat.ne_of_lt (Nat.lt_of_lt_of_le hD.Aqa.lt (Nat.le_of_eq g2.symm))
  have ne_qb_b2 : qb ≠ b2 := Nat.ne_of_lt (Nat.lt_of_lt_of_le hD.Aqb.lt (Nat.le_of_eq g2.symm))
  have ne_qc_b2 : qc ≠ b2 := Nat.ne_of_lt (Nat.lt_of_lt_of_le hD.Aqc.lt (Nat.le_of_eq g2.symm))
  have ne_qd_b2 : qd ≠ b2 := Nat.ne_of_lt (Nat.lt_of_lt_of_le hD.Aqd.lt (Nat.le_of_eq g2.symm))
  have ge_b2 : n0 ≤ b2 := Nat.le_trans Z0 (Nat.le_of_eq g2.symm)
  have sz_b2 : h0.size ≤ b2 := Nat.le_of_eq g2.symm
  have Z2 : n0 ≤ h2.size := Nat.le_trans Z0 E2.1
  have K2 : Keep h0 h2 [a0, av, al, ah, au, qa, qb, qc, qd] := (Keep.refl h0 [a0, av, al, ah, au, qa, qb, qc, qd]).ext E2
  have F2_f : Fld Z h2 b2 "com/example/prolong/prolong/tree/DecisionDiagram$Frames" "f" "[I" .null := D2 (Or.inl (hw _ (own_w 78 rfl))) (ty := (.array .int)) (by decide)
  have F2_g : Fld Z h2 b2 "com/example/prolong/prolong/tree/DecisionDiagram$Frames" "g" "[I" .null := D2 (Or.inl (hw _ (own_w 80 rfl))) (ty := (.array .int)) (by decide)
  have F2_h : Fld Z h2 b2 "com/example/prolong/prolong/tree/DecisionDiagram$Frames" "h" "[I" .null := D2 (Or.inl (hw _ (own_w 82 rfl))) (ty := (.array .int)) (by decide)
  have F2_variable : Fld Z h2 b2 "com/example/prolong/prolong/tree/DecisionDiagram$Frames" "variable" "[I" .null := D2 (Or.inl (hw _ (own_w 84 rfl))) (ty := (.array .int)) (by decide)
  have F2_high : Fld Z h2 b2 "com/example/prolong/prolong/tree/DecisionDiagram$Frames" "high" "[I" .null := D2 (Or.inl (hw _ (own_w 86 rfl))) (ty := (.array .int)) (by decide)
  have F2_low : Fld Z h2 b2 "com/example/prolong/prolong/tree/DecisionDiagram$Frames" "low" "[I" .null := D2 (Or.inl (hw _ (own_w 88 rfl))) (ty := (.array .int)) (by decide)
  have F2_depth : Fld Z h2 b2 "com/example/prolong/prolong/tree/DecisionDiagram$Frames" "depth" "I" (.int 0) := D2 (Or.inl (hw _ (own_w 103 rfl))) (ty := .int) (by decide)
  have D3 := (hD.ext E2)
  obtain ⟨_, T4, Lc4, X4, hQ4, st4⟩ := own_initRef (W := 1) (y := mN12) X2 hx hZ rfl hown (hw _ (own_w 73 rfl)) (hw _ (own_w 74 rfl)) (hw _ (own_w 75 rfl)) (hw _ (own_w 72 rfl)) (by decide) (rmFI l Z av0 hw [] b2 h2 n0 Z2 A2 ge_b2 F2_depth F2_f F2_g F2_h F2_variable F2_high F2_low) (by decide) (by decide) (g := (mkF m 22 #[rv a0, iv (own_n f), iv (own_n g), iv (own_n gz), iv (-1 : Int32), .unset, .unset, .unset, .unset, .unset, .unset, .unset, .unset, .unset] [(.ref b2), (.ref b2)])) rfl (by rw [hml]; rfl) (a := b2) (argsL := []) (rest := [(.ref b2)]) (lenOf pd__V rfl) rfl (hb hby d9_22) rfl e2 (by decide : 1 + 6 ≤ _) (by decide : 7 + 96 ≤ _)
  obtain ⟨b4bf, b4bg, b4bh, b4bv, b4bi, b4bl, rfl, N4q, K4, gq4, S4, G4⟩ := hQ4
  have N4 := Fr.app N1 N4q
  have e4 : T4.heap = T4.heap := rfl
  have Dk4 := D3.keep K4 (own_dj hD.lt (allS sz_b2 all0))
  have gz4 : ∀ y ∈ [b2, b4bf, b4bg, b4bh, b4bv, b4bi, b4bl], h0.size ≤ y := allS sz_b2 (fun y q => Nat.le_trans K2.1 (gq4 y q))
  have dj4 : ∀ y ∈ [a0, av, al, ah, au, qa, qb, qc, qd], y ∉ [b2, b4bf, b4bg, b4bh, b4bv, b4bi, b4bl] := own_dj hD.lt gz4
  have Zk4 : n0 ≤ T4.heap.size := Nat.le_trans Z2 K4.1
  have Kk4 : Keep h0 T4.heap [a0, av, al, ah, au, qa, qb, qc, qd] := K2.trans K4 (allS (Or.inr (gz4 _ (List.mem_of_getElem? (i := 0) rfl))) all0)
  obtain ⟨_, T5, Lc5, X5, hQ5, st5⟩ := own_private (W := 4) (y := mN9) X4 hx hZ hown (hw _ (own_w 89 rfl)) (hw _ (own_w 4 rfl)) (hw _ (own_w 91 rfl)) (hw _ (own_w 90 rfl)) (hw _ (own_w 92 rfl)) (hw _ (own_w 5 rfl)) (by decide) (rmTop l Z av0 hw [] a0 av al ah au qa qb qc qd vr lw hg uq c1 c2 c3 c4 sz f g gz T4.heap n0 Zk4 Dk4 hf hg' hh') (by decide) (by decide) Dk4.E (g := (mkF m 36 #[rv a0, iv (own_n f), iv (own_n g), iv (own_n gz), iv (-1 : Int32), rv b2, .unset, .unset, .unset, .unset, .unset, .unset, .unset, .unset] [(.int (own_n gz)), (.int (own_n g)), (.int (own_n f)), (.ref a0), (.int (own_n gz)), (.int (own_n g)), (.int (own_n f)), (.ref b2)])) rfl (by rw [hml]; rfl) (argsL := [(.int (own_n f)), (.int (own_n g)), (.int (own_n gz))]) (rest := [(.int (own_n gz)), (.int (own_n g)), (.int (own_n f)), (.ref b2)]) (lenOf pd__III_I rfl) rfl (hb hby d9_36) rfl e4 (by decide : 7 + 0 ≤ _) (by decide : 103 + 0 ≤ _)
  obtain ⟨rfl, N5q, hh5⟩ := hQ5
  have N5 := Fr.app N4 N5q
  have e5 : T5.heap = T4.heap := hh5
  obtain ⟨_, T6, Lc6, X6, hQ6, st6⟩ := own_virtual (W := 0) (y := mN13) (z := mN13) X5 hx hZ hown (hw _ (own_w 97 rfl)) (hw _ (own_w 98 rfl)) (notFace_of_selects (args := #[]) (mvT hZ (hw _ (own_w 100 rfl)))) (hw _ (own_w 100 rfl)) (hw _ (own_w 99 rfl)) (hw _ (own_w 101 rfl)) (hw _ (own_w 72 rfl)) (by decide) (rmPush l Z av0 hw [] b2 b4bf b4bg b4bh b4bv b4bi b4bl (fun _ => 0) (fun _ => 0) (fun _ => 0) (fun _ => 0) (fun _ => 0) (fun _ => 0) 0 (own_n f) (own_n g) (own_n gz) yv T4.heap n0 Zk4 G4 S4 (by decide)) (by decide) (by decide) G4.E (g := (mkF m 39 #[rv a0, iv (own_n f), iv (own_n g), iv (own_n gz), iv (-1 : Int32), rv b2, .unset, .unset, .unset, .unset, .unset, .unset, .unset, .unset] [(.int yv), (.int (own_n gz)), (.int (own_n g)), (.int (own_n f)), (.ref b2)])) rfl (by rw [hml]; rfl) (argsL := [(.int (own_n f)), (.int (own_n g)), (.int (own_n gz)), (.int yv)]) (rest := []) (lenOf pd__IIII_V rfl) rfl (hb hby d9_39) rfl e5 (by decide : 7 + 0 ≤ _) (by decide : 103 + 0 ≤ _)
  obtain ⟨rfl, N6q, K6, G6⟩ := hQ6
  have N6 := Fr.app N5 N6q
  have e6 : T6.heap = T6.heap := rfl
  have Zk6 : n0 ≤ T6.heap.size := Nat.le_trans Zk4 K6.1
  have Kk6 : Keep h0 T6.heap [a0, av, al, ah, au, qa, qb, qc, qd] := Kk4.trans K6 (allS (Or.inr (gz4 _ (List.mem_of_getElem? (i := 0) rfl))) (allS (Or.inr (gz4 _ (List.mem_of_getElem? (i := 1) rfl))) (allS (Or.inr (gz4 _ (List.mem_of_getElem? (i := 2) rfl))) (allS (Or.inr (gz4 _ (List.mem_of_getElem? (i := 3) rfl))) (allS (Or.inr (gz4 _ (List.mem_of_getElem? (i := 4) rfl))) (allS (Or.inr (gz4 _ (List.mem_of_getElem? (i := 5) rfl))) (allS (Or.inr (gz4 _ (List.mem_of_getElem? (i := 6) rfl))) all0)))))))
  have Dk6 := Dk4.keep K6 dj4
  have S7 : ∀ tz, oS p e below T6 (mkF m 45 #[rv a0, iv (own_n f), iv (own_n g), iv (own_n gz), iv (-1 : Int32), rv b2, iv (-1 : Int32), .unset, .unset, .unset, .unset, .unset, .unset, .unset] []) tz → oS p e below s₁ (mkF m 0 #[rv a0, iv (own_n f), iv (own_n g), iv (own_n gz), .unset, .unset, .unset, .unset, .unset, .unset, .unset, .unset, .unset, .unset] []) tz := fun tz kz => id (by
    show oS p e below s₁ (mkF m 0 #[rv a0, iv (own_n f), iv (own_n g), iv (own_n gz), .unset, .unset, .unset, .unset, .unset, .unset, .unset, .unset, .unset, .unset] []) _
    refine XS.aloadN X0.here hx rfl (hb hby d9_0) rfl rfl ?_
    refine XS.iloadN X0.here hx rfl (hb hby d9_1) rfl ?_
    refine XS.iloadN X0.here hx rfl (hb hby d9_2) rfl ?_
    refine XS.iloadN X0.here hx rfl (hb hby d9_3) rfl ?_
    refine st1 _ ?_
    refine XS.istore X1.here hx rfl (hb hby d9_7) rfl (l' := #[rv a0, iv (own_n f), iv (own_n g), iv (own_n gz), iv (-1 : Int32), .unset, .unset, .unset, .unset, .unset, .unset, .unset, .unset, .unset]) rfl ?_
    refine XS.iload X1.here hx rfl (hb hby d9_9) rfl ?_
    refine XT.iconstV X1.here hx rfl (-1 : Int32) (hb hby d9_11) (by decide) ?_
    refine XS.icmpYes X1.here hx rfl (pc0 := 12) (pc' := 18) rfl (hb hby d9_12) rfl (XT.ii_eq_t (by decide)) (by decide) (by decide) ?_
    refine st2 _ ?_
    show oS p e below T2 (mkF m 21 #[rv a0, iv (own_n f), iv (own_n g), iv (own_n gz), iv (-1 : Int32), .unset, .unset, .unset, .unset, .unset, .unset, .unset, .unset, .unset] [(.ref b2)]) _
    refine XS.dup X2.here hx rfl (hb hby d9_21) rfl rfl ?_
    refine st4 _ ?_
    refine XS.astore X4.here hx rfl (hb hby d9_25) rfl rfl (l' := #[rv a0, iv (own_n f), iv (own_n g), iv (own_n gz), iv (-1 : Int32), rv b2, .unset, .unset, .unset, .unset, .unset, .unset, .unset, .unset]) rfl ?_
    refine XS.aload X4.here hx rfl (hb hby d9_27) rfl rfl ?_
    refine XS.iloadN X4.here hx rfl (hb hby d9_29) rfl ?_
    refine XS.iloadN X4.here hx rfl (hb hby d9_30) rfl ?_
    refine XS.iloadN X4.here hx rfl (hb hby d9_31) rfl ?_
    refine XS.aloadN X4.here hx rfl (hb hby d9_32) rfl rfl ?_
    refine XS.iloadN X4.here hx rfl (hb hby d9_33) rfl ?_
    refine XS.iloadN X4.here hx rfl (hb hby d9_34) rfl ?_
    show oS p e below T4 (mkF m 35 #[rv a0, iv (own_n f), iv (own_n g), iv (own_n gz), iv (-1 : Int32), rv b2, .unset, .unset, .unset, .unset, .unset, .unset, .unset, .unset] [(.int (own_n g)), (.int (own_n f)), (.ref a0), (.int (own_n gz)), (.int (own_n g)), (.int (own_n f)), (.ref b2)]) _
    refine XS.iloadN X4.here hx rfl (hb hby d9_35) rfl ?_
    refine st5 _ ?_
    show oS p e below T5 (mkF m 39 #[rv a0, iv (own_n f), iv (own_n g), iv (own_n gz), iv (-1 : Int32), rv b2, .unset, .unset, .unset, .unset, .unset, .unset, .unset, .unset] [(.int (own_min (vr f) (own_min (vr g) (vr gz)))), (.int (own_n gz)), (.int (own_n g)), (.int (own_n f)), (.ref b2)]) _
    rw [htop]
    show oS p e below T5 (mkF m 39 #[rv a0, iv (own_n f), iv (own_n g), iv (own_n gz), iv (-1 : Int32), rv b2, .unset, .unset, .unset, .unset, .unset, .unset, .unset, .unset] [(.int yv), (.int (own_n gz)), (.int (own_n g)), (.int (own_n f)), (.ref b2)]) _
    refine st6 _ ?_
    refine XT.iconstV X6.here hx rfl (-1 : Int32) (hb hby d9_42) (by decide) ?_
    refine XS.istore X6.here hx rfl (hb hby d9_43) rfl (l' := #[rv a0, iv (own_n f), iv (own_n g), iv (own_n gz), iv (-1 : Int32), rv b2, iv (-1 : Int32), .unset, .unset, .unset, .unset, .unset, .unset, .unset]) rfl ?_
    exact kz)
  obtain ⟨T8, _, l8, X8, rfl, N8, K8, D8, G8, st8⟩ := own_H1 a0 av al ah au qa qb qc qd vr lw hg uq c1 c2 c3 c4 sz b2 b4bf b4bg b4bh b4bv b4bi b4bl (own_up (fun _ => 0) 0 (own_n f)) (own_up (fun _ => 0) 0 (own_n g)) (own_up (fun _ => 0) 0 (own_n gz)) (own_up (fun _ => 0) 0 yv) (own_up (fun _ => 0) 0 (-1 : Int32)) (own_up (fun _ => 0) 0 (-1 : Int32)) 0 f g gz yv (iv (own_n f)) (iv (own_n g)) (iv (own_n gz)) (iv (-1 : Int32)) (.unset) (.unset) (.unset) (.unset) (.unset) (.unset) (.unset) f xa xb ra X6 hx hZ hw hby hml hown e6 N6 Zk6 Dk6 G6 hS S4 dj4 (by decide) (show (own_up (fun _ => 0) 0 (own_n f)) 0 = (own_n f) from by simp [own_up]) (show (own_up (fun _ => 0) 0 (own_n g)) 0 = (own_n g) from by simp [own_up]) (show (own_up (fun _ => 0) 0 (own_n gz)) 0 = (own_n gz) from by simp [own_up]) (show (own_up (fun _ => 0) 0 yv) 0 = yv from by simp [own_up]) hf hg' hh' (Or.inl rfl) (Or.inl rfl) (Or.inl rfl) (Or.inl rfl) (Or.inl rfl) (Or.inl rfl) (Or.inl rfl) (show (own_up (fun _ => 0) 0 (-1 : Int32)) 0 = (-1 : Int32) from by simp [own_up]) ⟨fun q => absurd q hvf, fun _ => rfl⟩ hca hcb hKa hra
  have e8 : T8.heap = T8.heap := rfl
  have Zk8 : n0 ≤ T8.heap.size := Nat.le_trans Zk6 K8.1
  have Kk8 : Keep h0 T8.heap [a0, av, al, ah, au, qa, qb, qc, qd] := Kk6.trans K8 (allS (Or.inl (List.mem_of_getElem? (i := 0) rfl)) (allS (Or.inl (List.mem_of_getElem? (i := 1) rfl)) (allS (Or.inl (List.mem_of_getElem? (i := 2) rfl)) (allS (Or.inl (List.mem_of_getElem? (i := 3) rfl)) (allS (Or.inl (List.mem_of_getElem? (i := 4) rfl)) (allS (Or.inl (List.mem_of_getElem? (i := 5) rfl)) (allS (Or.inl (List.mem_of_getElem? (i := 6) rfl)) (allS (Or.inl (List.mem_of_getElem? (i := 7) rfl)) (allS (Or.inl (List.mem_of_getElem? (i := 8) rfl)) (allS (Or.inr (gz4 _ (List.mem_of_getElem? (i := 0) rfl))) (allS (Or.inr (gz4 _ (List.mem_of_getElem? (i := 1) rfl))) (allS (Or.inr (gz4 _ (List.mem_of_getElem? (i := 2) rfl))) (allS (Or.inr (gz4 _ (List.mem_of_getElem? (i := 3) rfl))) (allS (Or.inr (gz4 _ (List.mem_of_getElem? (i := 4) rfl))) (allS (Or.inr (gz4 _ (List.mem_of_getElem? (i := 5) rfl))) (allS (Or.inr (gz4 _ (List.mem_of_getElem? (i := 6) rfl))) all0))))))))))))))))
  have S9 : ∀ tz, oS p e below T8 (mkF m 45 #[rv a0, iv (own_n f), iv (own_n g), iv (own_n gz), iv (-1 : Int32), rv b2, iv (-1 : Int32), iv 0, iv yv, iv 1, iv (own_n f), iv (own_n xa), iv (own_n xb), iv (own_n ra)] []) tz → oS p e below s₁ (mkF m 0 #[rv a0, iv (own_n f), iv (own_n g), iv (own_n gz), .unset, .unset, .unset, .unset, .unset, .unset, .unset, .unset, .unset, .unset] []) tz := fun tz kz => S7 tz (by
    show oS p e below T6 (mkF m 45 #[rv a0, iv (own_n f), iv (own_n g), iv (own_n gz), iv (-1 : Int32), rv b2, iv (-1 : Int32), .unset, .unset, .unset, .unset, .unset, .unset, .unset] []) _
    refine st8 _ ?_
    show oS p e below T8 (mkF m 45 #[rv a0, iv (own_n f), iv (own_n g), iv (own_n gz), iv (-1 : Int32), rv b2, iv (-1 : Int32), iv 0, iv yv, iv 1, iv (own_n f), iv (own_n xa), iv (own_n xb), iv (own_n ra)] []) _
    exact kz)
  obtain ⟨T10, _, l10, X10, rfl, N10, K10, D10, G10, st10⟩ := own_B0 a0 av al ah au qa qb qc qd vr lw hg uq c1 c2 c3 c4 sz b2 b4bf b4bg b4bh b4bv b4bi b4bl (own_up (fun _ => 0) 0 (own_n f)) (own_up (fun _ => 0) 0 (own_n g)) (own_up (fun _ => 0) 0 (own_n gz)) (own_up (fun _ => 0) 0 yv) (own_up (own_up (fun _ => 0) 0 (-1 : Int32)) 0 (own_n ra)) (own_up (fun _ => 0) 0 (-1 : Int32)) 0 f g gz yv (iv (own_n f)) (iv (own_n g)) (iv (own_n gz)) (iv (-1 : Int32)) (iv 0) (iv yv) (iv 1) (iv (own_n f)) (iv (own_n xa)) (iv (own_n xb)) (iv (own_n ra)) f 0 1 yi X8 hx hZ hw hby hml hown e8 N8 Zk8 D8 G8 hS S4 dj4 (by decide) (show (own_up (fun _ => 0) 0 (own_n f)) 0 = (own_n f) from by simp [own_up]) (show (own_up (fun _ => 0) 0 (own_n g)) 0 = (own_n g) from by simp [own_up]) (show (own_up (fun _ => 0) 0 (own_n gz)) 0 = (own_n gz) from by simp [own_up]) (show (own_up (fun _ => 0) 0 yv) 0 = yv from by simp [own_up]) hf hg' hh' (Or.inr ⟨_, rfl⟩) (Or.inr ⟨_, rfl⟩) (Or.inr ⟨_, rfl⟩) (Or.inr ⟨_, rfl⟩) (Or.inr ⟨_, rfl⟩) (Or.inr ⟨_, rfl⟩) (Or.inr ⟨_, rfl⟩) (fun z => own_nm (i := ra) (by omega) ((show (own_up (own_up (fun _ => 0) 0 (-1 : Int32)) 0 (own_n ra)) 0 = (own_n ra) from by simp [own_up]).symm.trans z)) (show (own_up (fun _ => 0) 0 (-1 : Int32)) 0 = (-1 : Int32) from by simp [own_up]) ⟨fun q => absurd q hvf, fun _ => rfl⟩ hcc hcd (own_f1 hf hf2) (by decide) (own_f0 hf hf2) (by decide) hmi htopi hf (by decide) (by decide)
  have e10 : T10.heap = T10.heap := rfl
  have Zk10 : n0 ≤ T10.heap.size := Nat.le_trans Zk8 K10.1
  have Kk10 : Keep h0 T10.heap [a0, av, al, ah, au, qa, qb, qc, qd] := Kk8.trans K10 (allS (Or.inl (List.mem_of_getElem? (i := 0) rfl)) (allS (Or.inl (List.mem_of_getElem? (i := 1) rfl)) (allS (Or.inl (List.mem_of_getElem? (i := 2) rfl)) (allS (Or.inl (List.mem_of_getElem? (i := 3) rfl)) (allS (Or.inl (List.mem_of_getElem? (i := 4) rfl)) (allS (Or.inl (List.mem_of_getElem? (i := 5) rfl)) (allS (Or.inl (List.mem_of_getElem? (i := 6) rfl)) (allS (Or.inl (List.mem_of_getElem? (i := 7) rfl)) (allS (Or.inl (List.mem_of_getElem? (i := 8) rfl)) (allS (Or.inr (gz4 _ (List.mem_of_getElem? (i := 0) rfl))) (allS (Or.inr (gz4 _ (List.mem_of_getElem? (i := 1) rfl))) (allS (Or.inr (gz4 _ (List.mem_of_getElem? (i := 2) rfl))) (allS (Or.inr (gz4 _ (List.mem_of_getElem? (i := 3) rfl))) (allS (Or.inr (gz4 _ (List.mem_of_getElem? (i := 4) rfl))) (allS (Or.inr (gz4 _ (List.mem_of_getElem? (i := 5) rfl))) (allS (Or.inr (gz4 _ (List.mem_of_getElem? (i := 6) rfl))) all0))))))))))))))))
  have S11 : ∀ tz, oS p e below T10 (mkF m 45 #[rv a0, iv (own_n f), iv (own_n g), iv (own_n gz), iv (-1 : Int32), rv b2, iv (-1 : Int32), iv 0, iv yv, iv 0, iv (own_n f), iv 0, iv 1, iv (-1 : Int32)] []) tz → oS p e below s₁ (mkF m 0 #[rv a0, iv (own_n f), iv (own_n g), iv (own_n gz), .unset, .unset, .unset, .unset, .unset, .unset, .unset, .unset, .unset, .unset] []) tz := fun tz kz => S9 tz (by
    show oS p e below T8 (mkF m 45 #[rv a0, iv (own_n f), iv (own_n g), iv (own_n gz), iv (-1 : Int32), rv b2, iv (-1 : Int32), iv 0, iv yv, iv 1, iv (own_n f), iv (own_n xa), iv (own_n xb), iv (own_n ra)] []) _
    refine st10 _ ?_
    show oS p e below T10 (mkF m 45 #[rv a0, iv (own_n f), iv (own_n g), iv (own_n gz), iv (-1 : Int32), rv b2, iv (-1 : Int32), iv 0, iv yv, iv 0, iv (own_n f), iv 0, iv 1, iv (-1 : Int32)] []) _
    exact kz)
  obtain ⟨T12, _, l12, X12, rfl, N12, K12, D12, G12, st12⟩ := own_H1 a0 av al ah au qa qb qc qd vr lw hg uq c1 c2 c3 c4 sz b2 b4bf b4bg b4bh b4bv b4bi b4bl (own_up (own_up (fun _ => 0) 0 (own_n f)) 1 (own_n f)) (own_up (own_up (fun _ => 0) 0 (own_n g)) 1 (0 : Int32)) (own_up (own_up (fun _ => 0) 0 (own_n gz)) 1 (1 : Int32)) (own_up (own_up (fun _ => 0) 0 yv) 1 yi) (own_up (own_up (own_up (fun _ => 0) 0 (-1 : Int32)) 0 (own_n ra)) 1 (-1 : Int32)) (own_up (own_up (fun _ => 0) 0 (-1 : Int32)) 1 (-1 : Int32)) 1 f 0 1 yi (iv (own_n f)) (iv (own_n g)) (iv (own_n gz)) (iv (-1 : Int32)) (iv 0) (iv yv) (iv 0) (iv (own_n f)) (iv 0) (iv 1) (iv (-1 : Int32)) 1 0 1 0 X10 hx hZ hw hby hml hown e10 N10 Zk10 D10 G10 hS S4 dj4 (by decide) (show (own_up (own_up (fun _ => 0) 0 (own_n f)) 1 (own_n f)) 1 = (own_n f) from by simp [own_up]) (show (own_up (own_up (fun _ => 0) 0 (own_n g)) 1 (0 : Int32)) 1 = (0 : Int32) from by simp [own_up]) (show (own_up (own_up (fun _ => 0) 0 (own_n gz)) 1 (1 : Int32)) 1 = (1 : Int32) from by simp [own_up]) (show (own_up (own_up (fun _ => 0) 0 yv) 1 yi) 1 = yi from by simp [own_up]) hf (by decide) (by decide) (Or.inr ⟨_, rfl⟩) (Or.inr ⟨_, rfl⟩) (Or.inr ⟨_, rfl⟩) (Or.inr ⟨_, rfl⟩) (Or.inr ⟨_, rfl⟩) (Or.inr ⟨_, rfl⟩) (Or.inr ⟨_, rfl⟩) (show (own_up (own_up (own_up (fun _ => 0) 0 (-1 : Int32)) 0 (own_n ra)) 1 (-1 : Int32)) 1 = (-1 : Int32) from by simp [own_up]) ⟨fun _ => hhf, fun q => absurd hvi q⟩ ⟨fun q => absurd q hv0, fun _ => rfl⟩ ⟨fun q => absurd q hv1, fun _ => rfl⟩ (own_kp1 _ _) (by decide)
  have e12 : T12.heap = T12.heap := rfl
  have Zk12 : n0 ≤ T12.heap.size := Nat.le_trans Zk10 K12.1
  have Kk12 : Keep h0 T12.heap [a0, av, al, ah, au, qa, qb, qc, qd] := Kk10.trans K12 (allS (Or.inl (List.mem_of_getElem? (i := 0) rfl)) (allS (Or.inl (List.mem_of_getElem? (i := 1) rfl)) (allS (Or.inl (List.mem_of_getElem? (i := 2) rfl)) (allS (Or.inl (List.mem_of_getElem? (i := 3) rfl)) (allS (Or.inl (List.mem_of_getElem? (i := 4) rfl)) (allS (Or.inl (List.mem_of_getElem? (i := 5) rfl)) (allS (Or.inl (List.mem_of_getElem? (i := 6) rfl)) (allS (Or.inl (List.mem_of_getElem? (i := 7) rfl)) (allS (Or.inl (List.mem_of_getElem? (i := 8) rfl)) (allS (Or.inr (gz4 _ (List.mem_of_getElem? (i := 0) rfl))) (allS (Or.inr (gz4 _ (List.mem_of_getElem? (i := 1) rfl))) (allS (Or.inr (gz4 _ (List.mem_of_getElem? (i := 2) rfl))) (allS (Or.inr (gz4 _ (List.mem_of_getElem? (i := 3) rfl))) (allS (Or.inr (gz4 _ (List.mem_of_getElem? (i := 4) rfl))) (allS (Or.inr (gz4 _ (List.mem_of_getElem? (i := 5) rfl))) (allS (Or.inr (gz4 _ (List.mem_of_getElem? (i := 6) rfl))) all0))))))))))))))))
  have S13 : ∀ tz, oS p e below T12 (mkF m 45 #[rv a0, iv (own_n f), iv (own_n g), iv (own_n gz), iv (-1 : Int32), rv b2, iv (-1 : Int32), iv 1, iv yi, iv 1, iv 1, iv 0, iv 1, iv 0] []) tz → oS p e below s₁ (mkF m 0 #[rv a0, iv (own_n f), iv (own_n g), iv (own_n gz), .unset, .unset, .unset, .unset, .unset, .unset, .unset, .unset, .unset, .unset] []) tz := fun tz kz => S11 tz (by
    show oS p e below T10 (mkF m 45 #[rv a0, iv (own_n f), iv (own_n g), iv (own_n gz), iv (-1 : Int32), rv b2, iv (-1 : Int32), iv 0, iv yv, iv 0, iv (own_n f), iv 0, iv 1, iv (-1 : Int32)] []) _
    refine st12 _ ?_
    show oS p e below T12 (mkF m 45 #[rv a0, iv (own_n f), iv (own_n g), iv (own_n gz), iv (-1 : Int32), rv b2, iv (-1 : Int32), iv 1, iv yi, iv 1, iv 1, iv 0, iv 1, iv 0] []) _
    exact kz)
  obtain ⟨T14, _, l14, X14, rfl, N14, K14, D14, G14, st14⟩ := own_H0 a0 av al ah au qa qb qc qd vr lw hg uq c1 c2 c3 c4 sz b2 b4bf b4bg b4bh b4bv b4bi b4bl (own_up (own_up (fun _ => 0) 0 (own_n f)) 1 (own_n f)) (own_up (own_up (fun _ => 0) 0 (own_n g)) 1 (0 : Int32)) (own_up (own_up (fun _ => 0) 0 (own_n gz)) 1 (1 : Int32)) (own_up (own_up (fun _ => 0) 0 yv) 1 yi) (own_up (own_up (own_up (own_up (fun _ => 0) 0 (-1 : Int32)) 0 (own_n ra)) 1 (-1 : Int32)) 1 (0 : Int32)) (own_up (own_up (fun _ => 0) 0 (-1 : Int32)) 1 (-1 : Int32)) 1 f 0 1 yi (iv (own_n f)) (iv (own_n g)) (iv (own_n gz)) (iv (-1 : Int32)) (iv 1) (iv yi) (iv 1) (iv 1) (iv 0) (iv 1) (iv 0) 0 0 1 1 X12 hx hZ hw hby hml hown e12 N12 Zk12 D12 G12 hS S4 dj4 (by decide) (show (own_up (own_up (fun _ => 0) 0 (own_n f)) 1 (own_n f)) 1 = (own_n f) from by simp [own_up]) (show (own_up (own_up (fun _ => 0) 0 (own_n g)) 1 (0 : Int32)) 1 = (0 : Int32) from by simp [own_up]) (show (own_up (own_up (fun _ => 0) 0 (own_n gz)) 1 (1 : Int32)) 1 = (1 : Int32) from by simp [own_up]) (show (own_up (own_up (fun _ => 0) 0 yv) 1 yi) 1 = yi from by simp [own_up]) hf (by decide) (by decide) (Or.inr ⟨_, rfl⟩) (Or.inr ⟨_, rfl⟩) (Or.inr ⟨_, rfl⟩) (Or.inr ⟨_, rfl⟩) (Or.inr ⟨_, rfl⟩) (Or.inr ⟨_, rfl⟩) (Or.inr ⟨_, rfl⟩) (fun z => own_nm (i := 0) (by omega) ((show (own_up (own_up (own_up (own_up (fun _ => 0) 0 (-1 : Int32)) 0 (own_n ra)) 1 (-1 : Int32)) 1 (0 : Int32)) 1 = (0 : Int32) from by simp [own_up]).symm.trans z)) (show (own_up (own_up (fun _ => 0) 0 (-1 : Int32)) 1 (-1 : Int32)) 1 = (-1 : Int32) from by simp [own_up]) ⟨fun _ => hlf, fun q => absurd hvi q⟩ ⟨fun q => absurd q hv0, fun _ => rfl⟩ ⟨fun q => absurd q hv1, fun _ => rfl⟩ (own_kp0 _ _ (by decide)) (by decide)
  have e14 : T14.heap = T14.heap := rfl
  have Zk14 : n0 ≤ T14.heap.size := Nat.le_trans Zk12 K14.1
  have Kk14 : Keep h0 T14.heap [a0, av, al, ah, au, qa, qb, qc, qd] := Kk12.trans K14 (allS (Or.inl (List.mem_of_getElem? (i := 0) rfl)) (allS (Or.inl (List.mem_of_getElem? (i := 1) rfl)) (allS (Or.inl (List.mem_of_getElem? (i := 2) rfl)) (allS (Or.inl (List.mem_of_getElem? (i := 3) rfl)) (allS (Or.inl (List.mem_of_getElem? (i := 4) rfl)) (allS (Or.inl (List.mem_of_getElem? (i := 5) rfl)) (allS (Or.inl (List.mem_of_getElem? (i := 6) rfl)) (allS (Or.inl (List.mem_of_getElem? (i := 7) rfl)) (allS (Or.inl (List.mem_of_getElem? (i := 8) rfl)) (allS (Or.inr (gz4 _ (List.mem_of_getElem? (i := 0) rfl))) (allS (Or.inr (gz4 _ (List.mem_of_getElem? (i := 1) rfl))) (allS (Or.inr (gz4 _ (List.mem_of_getElem? (i := 2) rfl))) (allS (Or.inr (gz4 _ (List.mem_of_getElem? (i := 3) rfl))) (allS (Or.inr (gz4 _ (List.mem_of_getElem? (i := 4) rfl))) (allS (Or.inr (gz4 _ (List.mem_of_getElem? (i := 5) rfl))) (allS (Or.inr (gz4 _ (List.mem_of_getElem? (i := 6) rfl))) all0))))))))))))))))
  have S15 : ∀ tz, oS p e below T14 (mkF m 45 #[rv a0, iv (own_n f), iv (own_n g), iv (own_n gz), iv (-1 : Int32), rv b2, iv (-1 : Int32), iv 1, iv yi, iv 0, iv 0, iv 0, iv 1, iv 1] []) tz → oS p e below s₁ (mkF m 0 #[rv a0, iv (own_n f), iv (own_n g), iv (own_n gz), .unset, .unset, .unset, .unset, .unset, .unset, .unset, .unset, .unset, .unset] []) tz := fun tz kz => S13 tz (by
    show oS p e below T12 (mkF m 45 #[rv a0, iv (own_n f), iv (own_n g), iv (own_n gz), iv (-1 : Int32), rv b2, iv (-1 : Int32), iv 1, iv yi, iv 1, iv 1, iv 0, iv 1, iv 0] []) _
    refine st14 _ ?_
    show oS p e below T14 (mkF m 45 #[rv a0, iv (own_n f), iv (own_n g), iv (own_n gz), iv (-1 : Int32), rv b2, iv (-1 : Int32), iv 1, iv yi, iv 0, iv 0, iv 0, iv 1, iv 1] []) _
    exact kz)
  obtain ⟨T16, _, l16, X16, rfl, N16, ⟨k16, hk16, U16, K16, D16, G16⟩, st16⟩ := own_C a0 av al ah au qa qb qc qd vr lw hg uq c1 c2 c3 c4 sz b2 b4bf b4bg b4bh b4bv b4bi b4bl (own_up (own_up (fun _ => 0) 0 (own_n f)) 1 (own_n f)) (own_up (own_up (fun _ => 0) 0 (own_n g)) 1 (0 : Int32)) (own_up (own_up (fun _ => 0) 0 (own_n gz)) 1 (1 : Int32)) (own_up (own_up (fun _ => 0) 0 yv) 1 yi) (own_up (own_up (own_up (own_up (fun _ => 0) 0 (-1 : Int32)) 0 (own_n ra)) 1 (-1 : Int32)) 1 (0 : Int32)) (own_up (own_up (own_up (fun _ => 0) 0 (-1 : Int32)) 1 (-1 : Int32)) 1 (1 : Int32)) 1 f 0 1 yi (iv (own_n f)) (iv (own_n g)) (iv (own_n gz)) (iv (-1 : Int32)) (iv 1) (iv yi) (iv 0) (iv 0) (iv 0) (iv 1) (iv 1) 0 1 X14 hx hZ hw hby hml hown e14 N14 Zk14 D14 G14 hS S4 dj4 (by decide) (show (own_up (own_up (fun _ => 0) 0 (own_n f)) 1 (own_n f)) 1 = (own_n f) from by simp [own_up]) (show (own_up (own_up (fun _ => 0) 0 (own_n g)) 1 (0 : Int32)) 1 = (0 : Int32) from by simp [own_up]) (show (own_up (own_up (fun _ => 0) 0 (own_n gz)) 1 (1 : Int32)) 1 = (1 : Int32) from by simp [own_up]) (show (own_up (own_up (fun _ => 0) 0 yv) 1 yi) 1 = yi from by simp [own_up]) hf (by decide) (by decide) (Or.inr ⟨_, rfl⟩) (Or.inr ⟨_, rfl⟩) (Or.inr ⟨_, rfl⟩) (Or.inr ⟨_, rfl⟩) (Or.inr ⟨_, rfl⟩) (Or.inr ⟨_, rfl⟩) (Or.inr ⟨_, rfl⟩) hU htwo hsz (show (own_up (own_up (own_up (own_up (fun _ => 0) 0 (-1 : Int32)) 0 (own_n ra)) 1 (-1 : Int32)) 1 (0 : Int32)) 1 = (0 : Int32) from by simp [own_up]) (show (own_up (own_up (own_up (fun _ => 0) 0 (-1 : Int32)) 1 (-1 : Int32)) 1 (1 : Int32)) 1 = (1 : Int32) from by simp [own_up]) (by decide) (by decide) (by decide) hmisi
  have e16 : T16.heap = T16.heap := rfl
  have Zk16 : n0 ≤ T16.heap.size := Nat.le_trans Zk14 K16.1
  have Kk16 : Keep h0 T16.heap [a0, av, al, ah, au, qa, qb, qc, qd] := Kk14.trans K16 (allS (Or.inl (List.mem_of_getElem? (i := 0) rfl)) (allS (Or.inl (List.mem_of_getElem? (i := 1) rfl)) (allS (Or.inl (List.mem_of_getElem? (i := 2) rfl)) (allS (Or.inl (List.mem_of_getElem? (i := 3) rfl)) (allS (Or.inl (List.mem_of_getElem? (i := 4) rfl)) (allS (Or.inl (List.mem_of_getElem? (i := 5) rfl)) (allS (Or.inl (List.mem_of_getElem? (i := 6) rfl)) (allS (Or.inl (List.mem_of_getElem? (i := 7) rfl)) (allS (Or.inl (List.mem_of_getElem? (i := 8) rfl)) (allS (Or.inr (gz4 _ (List.mem_of_getElem? (i := 0) rfl))) (allS (Or.inr (gz4 _ (List.mem_of_getElem? (i := 1) rfl))) (allS (Or.inr (gz4 _ (List.mem_of_getElem? (i := 2) rfl))) (allS (Or.inr (gz4 _ (List.mem_of_getElem? (i := 3) rfl))) (allS (Or.inr (gz4 _ (List.mem_of_getElem? (i := 4) rfl))) (allS (Or.inr (gz4 _ (List.mem_of_getElem? (i := 5) rfl))) (allS (Or.inr (gz4 _ (List.mem_of_getElem? (i := 6) rfl))) all0))))))))))))))))
  have S17 : ∀ tz, oS p e below T16 (mkF m 286 #[rv a0, iv (own_n f), iv (own_n g), iv (own_n gz), iv (-1 : Int32), rv b2, iv (-1 : Int32), iv 1, iv yi, iv (own_n sz), iv 0, iv 0, iv 1, iv 1] []) tz → oS p e below s₁ (mkF m 0 #[rv a0, iv (own_n f), iv (own_n g), iv (own_n gz), .unset, .unset, .unset, .unset, .unset, .unset, .unset, .unset, .unset, .unset] []) tz := fun tz kz => S15 tz (by
    show oS p e below T14 (mkF m 45 #[rv a0, iv (own_n f), iv (own_n g), iv (own_n gz), iv (-1 : Int32), rv b2, iv (-1 : Int32), iv 1, iv yi, iv 0, iv 0, iv 0, iv 1, iv 1] []) _
    refine st16 _ ?_
    show oS p e below T16 (mkF m 286 #[rv a0, iv (own_n f), iv (own_n g), iv (own_n gz), iv (-1 : Int32), rv b2, iv (-1 : Int32), iv 1, iv yi, iv (own_n sz), iv 0, iv 0, iv 1, iv 1] []) _
    exact kz)
  obtain ⟨T18, _, l18, X18, rfl, N18, K18, D18, G18, st18⟩ := own_S0 a0 av al ah au qa qb qc qd (own_up vr sz yi) (own_up lw sz (1 : Int32)) (own_up hg sz (0 : Int32)) (own_up uq k16 (own_n sz)) (own_up c1 (own_cs (own_n f) (0 : Int32) (1 : Int32)) (own_n f)) (own_up c2 (own_cs (own_n f) (0 : Int32) (1 : Int32)) (0 : Int32)) (own_up c3 (own_cs (own_n f) (0 : Int32) (1 : Int32)) (1 : Int32)) (own_up c4 (own_cs (own_n f) (0 : Int32) (1 : Int32)) (own_n sz)) (sz + 1) b2 b4bf b4bg b4bh b4bv b4bi b4bl (own_up (own_up (fun _ => 0) 0 (own_n f)) 1 (own_n f)) (own_up (own_up (fun _ => 0) 0 (own_n g)) 1 (0 : Int32)) (own_up (own_up (fun _ => 0) 0 (own_n gz)) 1 (1 : Int32)) (own_up (own_up (fun _ => 0) 0 yv) 1 yi) (own_up (own_up (own_up (own_up (fun _ => 0) 0 (-1 : Int32)) 0 (own_n ra)) 1 (-1 : Int32)) 1 (0 : Int32)) (own_up (own_up (own_up (fun _ => 0) 0 (-1 : Int32)) 1 (-1 : Int32)) 1 (1 : Int32)) 0 sz (iv (own_n f)) (iv (own_n g)) (iv (own_n gz)) (iv (-1 : Int32)) (iv 1) (iv yi) (iv 0) (iv 0) (iv 1) (iv 1) X16 hx hZ hw hby hml hown e16 N16 Zk16 D16 G16 hS S4 dj4 (by decide) (fun z => own_nm (i := ra) (by omega) ((show (own_up (own_up (own_up (own_up (fun _ => 0) 0 (-1 : Int32)) 0 (own_n ra)) 1 (-1 : Int32)) 1 (0 : Int32)) 0 = (own_n ra) from by simp [own_up]).symm.trans z))
  have e18 : T18.heap = T18.heap := rfl
  have Zk18 : n0 ≤ T18.heap.size := Nat.le_trans Zk16 K18.1
  have Kk18 : Keep h0 T18.heap [a0, av, al, ah, au, qa, qb, qc, qd] := Kk16.trans K18 (allS (Or.inl (List.mem_of_getElem? (i := 0) rfl)) (allS (Or.inl (List.mem_of_getElem? (i := 1) rfl)) (allS (Or.inl (List.mem_of_getElem? (i := 2) rfl)) (allS (Or.inl (List.mem_of_getElem? (i := 3) rfl)) (allS (Or.inl (List.mem_of_getElem? (i := 4) rfl)) (allS (Or.inl (List.mem_of_getElem? (i := 5) rfl)) (allS (Or.inl (List.mem_of_getElem? (i := 6) rfl)) (allS (Or.inl (List.mem_of_getElem? (i := 7) rfl)) (allS (Or.inl (List.mem_of_getElem? (i := 8) rfl)) (allS (Or.inr (gz4 _ (List.mem_of_getElem? (i := 0) rfl))) (allS (Or.inr (gz4 _ (List.mem_of_getElem? (i := 1) rfl))) (allS (Or.inr (gz4 _ (List.mem_of_getElem? (i := 2) rfl))) (allS (Or.inr (gz4 _ (List.mem_of_getElem? (i := 3) rfl))) (allS (Or.inr (gz4 _ (List.mem_of_getElem? (i := 4) rfl))) (allS (Or.inr (gz4 _ (List.mem_of_getElem? (i := 5) rfl))) (allS (Or.inr (gz4 _ (List.mem_of_getElem? (i := 6) rfl))) all0))))))))))))))))
  have S19 : ∀ tz, oS p e below T18 (mkF m 45 #[rv a0, iv (own_n f), iv (own_n g), iv (own_n gz), iv (-1 : Int32), rv b2, iv (-1 : Int32), iv 1, iv yi, iv (own_n sz), iv 0, iv 0, iv 1, iv 1] []) tz → oS p e below s₁ (mkF m 0 #[rv a0, iv (own_n f), iv (own_n g), iv (own_n gz), .unset, .unset, .unset, .unset, .unset, .unset, .unset, .unset, .unset, .unset] []) tz := fun tz kz => S17 tz (by
    show oS p e below T16 (mkF m 286 #[rv a0, iv (own_n f), iv (own_n g), iv (own_n gz), iv (-1 : Int32), rv b2, iv (-1 : Int32), iv 1, iv yi, iv (own_n sz), iv 0, iv 0, iv 1, iv 1] []) _
    refine st18 _ ?_
    show oS p e below T18 (mkF m 45 #[rv a0, iv (own_n f), iv (own_n g), iv (own_n gz), iv (-1 : Int32), rv b2, iv (-1 : Int32), iv 1, iv yi, iv (own_n sz), iv 0, iv 0, iv 1, iv 1] []) _
    exact kz)
  obtain ⟨T20, _, l20, X20, rfl, N20, ⟨k20, hk20, U20, K20, D20, G20⟩, st20⟩ := own_C a0 av al ah au qa qb qc qd (own_up vr sz yi) (own_up lw sz (1 : Int32)) (own_up hg sz (0 : Int32)) (own_up uq k16 (own_n sz)) (own_up c1 (own_cs (own_n f) (0 : Int32) (1 : Int32)) (own_n f)) (own_up c2 (own_cs (own_n f) (0 : Int32) (1 : Int32)) (0 : Int32)) (own_up c3 (own_cs (own_n f) (0 : Int32) (1 : Int32)) (1 : Int32)) (own_up c4 (own_cs (own_n f) (0 : Int32) (1 : Int32)) (own_n sz)) (sz + 1) b2 b4bf b4bg b4bh b4bv b4bi b4bl (own_up (own_up (fun _ => 0) 0 (own_n f)) 1 (own_n f)) (own_up (own_up (fun _ => 0) 0 (own_n g)) 1 (0 : Int32)) (own_up (own_up (fun _ => 0) 0 (own_n gz)) 1 (1 : Int32)) (own_up (own_up (fun _ => 0) 0 yv) 1 yi) (own_up (own_up (own_up (own_up (fun _ => 0) 0 (-1 : Int32)) 0 (own_n ra)) 1 (-1 : Int32)) 1 (0 : Int32)) (own_up (own_up (own_up (own_up (fun _ => 0) 0 (-1 : Int32)) 1 (-1 : Int32)) 1 (1 : Int32)) 0 (own_n sz)) 0 f g gz yv (iv (own_n f)) (iv (own_n g)) (iv (own_n gz)) (iv (-1 : Int32)) (iv 1) (iv yi) (iv (own_n sz)) (iv 0) (iv 0) (iv 1) (iv 1) ra sz X18 hx hZ hw hby hml hown e18 N18 Zk18 D18 G18 hS S4 dj4 (by decide) (show (own_up (own_up (fun _ => 0) 0 (own_n f)) 1 (own_n f)) 0 = (own_n f) from by simp [own_up]) (show (own_up (own_up (fun _ => 0) 0 (own_n g)) 1 (0 : Int32)) 0 = (own_n g) from by simp [own_up]) (show (own_up (own_up (fun _ => 0) 0 (own_n gz)) 1 (1 : Int32)) 0 = (own_n gz) from by simp [own_up]) (show (own_up (own_up (fun _ => 0) 0 yv) 1 yi) 0 = yv from by simp [own_up]) hf hg' hh' (Or.inr ⟨_, rfl⟩) (Or.inr ⟨_, rfl⟩) (Or.inr ⟨_, rfl⟩) (Or.inr ⟨_, rfl⟩) (Or.inr ⟨_, rfl⟩) (Or.inr ⟨_, rfl⟩) (Or.inr ⟨_, rfl⟩) U16 (by omega) (by omega) (show (own_up (own_up (own_up (own_up (fun _ => 0) 0 (-1 : Int32)) 0 (own_n ra)) 1 (-1 : Int32)) 1 (0 : Int32)) 0 = (own_n ra) from by simp [own_up]) (show (own_up (own_up (own_up (own_up (fun _ => 0) 0 (-1 : Int32)) 1 (-1 : Int32)) 1 (1 : Int32)) 0 (own_n sz)) 0 = (own_n sz) from by simp [own_up]) hra (by omega) hrs (own_misup hmis hyi)
  have e20 : T20.heap = T20.heap := rfl
  have Zk20 : n0 ≤ T20.heap.size := Nat.le_trans Zk18 K20.1
  have Kk20 : Keep h0 T20.heap [a0, av, al, ah, au, qa, qb, qc, qd] := Kk18.trans K20 (allS (Or.inl (List.mem_of_getElem? (i := 0) rfl)) (allS (Or.inl (List.mem_of_getElem? (i := 1) rfl)) (allS (Or.inl (List.mem_of_getElem? (i := 2) rfl)) (allS (Or.inl (List.mem_of_getElem? (i := 3) rfl)) (allS (Or.inl (List.mem_of_getElem? (i := 4) rfl)) (allS (Or.inl (List.mem_of_getElem? (i := 5) rfl)) (allS (Or.inl (List.mem_of_getElem? (i := 6) rfl)) (allS (Or.inl (List.mem_of_getElem? (i := 7) rfl)) (allS (Or.inl (List.mem_of_getElem? (i := 8) rfl)) (allS (Or.inr (gz4 _ (List.mem_of_getElem? (i := 0) rfl))) (allS (Or.inr (gz4 _ (List.mem_of_getElem? (i := 1) rfl))) (allS (Or.inr (gz4 _ (List.mem_of_getElem? (i := 2) rfl))) (allS (Or.inr (gz4 _ (List.mem_of_getElem? (i := 3) rfl))) (allS (Or.inr (gz4 _ (List.mem_of_getElem? (i := 4) rfl))) (allS (Or.inr (gz4 _ (List.mem_of_getElem? (i := 5) rfl))) (allS (Or.inr (gz4 _ (List.mem_of_getElem? (i := 6) rfl))) all0))))))))))))))))
  obtain ⟨T21, X21, e21, st21⟩ := getF X20 hx hZ hown (host := "") (Or.inl (hw _ (own_w 104 rfl))) Via.refl e20 G20.Fs (g := (mkF m 288 #[rv a0, iv (own_n f), iv (own_n g), iv (own_n gz), iv (-1 : Int32), rv b2, iv (-1 : Int32), iv 0, iv yv, iv ((own_n (sz + 1))), iv 0, iv 0, iv 1, iv 1] [(.ref b2)])) rfl rfl (hb hby d9_288)
  have S22 : ∀ tz, oS p e below T21 (mkF m 320 #[rv a0, iv (own_n f), iv (own_n g), iv (own_n gz), iv (-1 : Int32), rv b2, iv ((own_n (sz + 1))), iv 0, iv yv, iv ((own_n (sz + 1))), iv 0, iv 0, iv 1, iv 1] [(.int (own_n (sz + 1)))]) tz → oS p e below s₁ (mkF m 0 #[rv a0, iv (own_n f), iv (own_n g), iv (own_n gz), .unset, .unset, .unset, .unset, .unset, .unset, .unset, .unset, .unset, .unset] []) tz := fun tz kz => S19 tz (by
    show oS p e below T18 (mkF m 45 #[rv a0, iv (own_n f), iv (own_n g), iv (own_n gz), iv (-1 : Int32), rv b2, iv (-1 : Int32), iv 1, iv yi, iv (own_n sz), iv 0, iv 0, iv 1, iv 1] []) _
    refine st20 _ ?_
    show oS p e below T20 (mkF m 286 #[rv a0, iv (own_n f), iv (own_n g), iv (own_n gz), iv (-1 : Int32), rv b2, iv (-1 : Int32), iv 0, iv yv, iv ((own_n (sz + 1))), iv 0, iv 0, iv 1, iv 1] []) _
    refine XS.aload X20.here hx rfl (hb hby d9_286) rfl rfl ?_
    refine st21 _ ?_
    refine XS.ifNo X21.here hx rfl (hb hby d9_291) rfl (XT.i0_ne_f (by decide)) ?_
    refine XS.iload X21.here hx rfl (hb hby d9_294) rfl ?_
    refine XS.istore X21.here hx rfl (hb hby d9_296) rfl (l' := #[rv a0, iv (own_n f), iv (own_n g), iv (own_n gz), iv (-1 : Int32), rv b2, iv ((own_n (sz + 1))), iv 0, iv yv, iv ((own_n (sz + 1))), iv 0, iv 0, iv 1, iv 1]) rfl ?_
    refine XS.goto X21.here hx rfl (pc0 := 298) (pc' := 315) rfl (hb hby d9_298) (by decide) (by decide) ?_
    refine XS.goto X21.here hx rfl (pc0 := 315) (pc' := 45) rfl (hb hby d9_315) (by decide) (by decide) ?_
    show oS p e below T21 (mkF m 45 #[rv a0, iv (own_n f), iv (own_n g), iv (own_n gz), iv (-1 : Int32), rv b2, iv ((own_n (sz + 1))), iv 0, iv yv, iv ((own_n (sz + 1))), iv 0, iv 0, iv 1, iv 1] []) _
    refine XS.iload X21.here hx rfl (hb hby d9_45) rfl ?_
    refine XT.iconstV X21.here hx rfl (-1 : Int32) (hb hby d9_47) (by decide) ?_
    refine XS.icmpYes X21.here hx rfl (pc0 := 48) (pc' := 318) rfl (hb hby d9_48) rfl (XT.ii_ne_t (own_nm (i := (sz + 1)) (by omega))) (by decide) (by decide) ?_
    refine XS.iload X21.here hx rfl (hb hby d9_318) rfl ?_
    exact kz)
  obtain ⟨fs, hr, hrun, hended, hW, hsame⟩ := X21.leave (v := some (.int (own_n (sz + 1)))) (fun h => by rw [Bd.returns] at h; cases h)
  refine ⟨_, _, pre0 _ (S22 _ ?_), hrun, hended, _, _, rfl, ?_, ⟨_, rfl⟩, hW, hsame.mono (by decide) (by decide)⟩
  · exact retI X21 hx Bd.returns (hb hby d9_320) hr
  · show QrmItePB Z a0 av al ah au qa qb qc qd vr lw hg uq c1 c2 c3 c4 sz f g gz yv xa xb ra yi h0 n0 _ T21.heap _
    rw [e21]
    exact ⟨_, _, _, _, _, rfl, N20, Kk20, D20⟩
def own_mx (y0 y1 : Int32) : Int32 := if y0 < y1 then y1 else y0
theorem own_mxn {k : Nat} (h : k < 1000) : own_mx (own_n k) 2 = own_n (max k 2) := by
  unfold own_mx
  by_cases q : own_n k < 2
  · rw [if_pos q]
    rw [Int32.lt_iff_toInt_lt, own_nI (by omega), show (2 : Int32).toInt = 2 from rfl] at q
    rw [show max k 2 = 2 by omega]; rfl
  · rw [if_neg q]
    rw [Int32.lt_iff_toInt_lt, own_nI (by omega), show (2 : Int32).toInt = 2 from rfl] at q
    rw [show max k 2 = k by omega]
theorem d20_0 : decode jdk_29_method_65_code 0 = .ok (.iload_n 0, 1) := by decide +kernel
theorem d20_1 : decode jdk_29_method_65_code 1 = .ok (.iload_n 1, 1) := by decide +kernel
theorem d20_2 : decode jdk_29_method_65_code 2 = .ok (.if_icmp .lt 7, 3) := by decide +kernel
theorem d20_5 : decode jdk_29_method_65_code 5 = .ok (.iload_n 0, 1) := by decide +kernel
theorem d20_6 : decode jdk_29_method_65_code 6 = .ok (.goto 4, 3) := by decide +kernel
theorem d20_9 : decode jdk_29_method_65_code 9 = .ok (.iload_n 1, 1) := by decide +kernel
theorem d20_10 : decode jdk_29_method_65_code 10 = .ok (.ireturn, 1) := by decide +kernel
def QrmMax (Z : State) (y0 : Int32) (y1 : Int32) (h0 : Heap) (n0 : Nat) (v : Option Value) (h : Heap) (L : List Loc) : Prop := v = some (.int (own_mx y0 y1)) ∧ Fr n0 L ∧ h = h0
set_option maxRecDepth 65536 in
set_option maxHeartbeats 40000000 in
theorem rmMax (l : Launch) (Z : State) (av0 : Array Value) (hw : ∀ d ∈ tables_1, d.before av0 Z = true) (ws : List Jvm.Cond) (y0 : Int32) (y1 : Int32) (h0 : Heap) (n0 : Nat) (Z0 : n0 ≤ h0.size)  :
    own_Met l mN16 jdk_29_method_65_code 2 (some .int) ws ({ frames := 0, cells := 0, slots := 0, locals := 0 } : Room) #[(.int y0), (.int y1)] Z h0 (QrmMax Z y0 y1 h0 n0) := by
  refine MetFree.of_bodySF (Jvm.Free.JP.mathPlain rfl (by decide +kernel)) hisR ?_
  intro p e s m args below meth c s₁ Bd hml0 hP hK
  obtain ⟨rfl, hZ, hh⟩ := hP
  have hml : c.maxLocals = 2 := hml0
  obtain ⟨hx, hby, hown, hnm, X0, e0⟩ := own_start Bd hml0 hh
  have N0 := Fr.nil n0
  have pre0 : ∀ tz, oS p e below s₁ (mkF m 0 #[iv y0, iv y1] []) tz → Steps p.tables e below (s₁.setTop (entryFrame m #[(.int y0), (.int y1)] 2)) tz := fun tz kz => castTop (by first | (simp [entryFrame, mkF, argsToLocals, Value.category]; done) | rfl) kz
  have S1 : ∀ tz, oS p e below s₁ (mkF m 2 #[iv y0, iv y1] [(.int y1), (.int y0)]) tz → oS p e below s₁ (mkF m 0 #[iv y0, iv y1] []) tz := fun tz kz => id (by
    show oS p e below s₁ (mkF m 0 #[iv y0, iv y1] []) _
    refine XS.iloadN X0.here hx rfl (hb hby d20_0) rfl ?_
    refine XS.iloadN X0.here hx rfl (hb hby d20_1) rfl ?_
    exact kz)
  by_cases hc2_2 : y0 < y1
  · have S3 : ∀ tz, oS p e below s₁ (mkF m 10 #[iv y0, iv y1] [(.int y1)]) tz → oS p e below s₁ (mkF m 0 #[iv y0, iv y1] []) tz := fun tz kz => S1 tz (by
      show oS p e below s₁ (mkF m 2 #[iv y0, iv y1] [(.int y1), (.int y0)]) _
      refine XS.icmpYes X0.here hx rfl (pc0 := 2) (pc' := 9) rfl (hb hby d20_2) rfl (XT.ii_lt_t hc2_2) (by decide) (by decide) ?_
      refine XS.iloadN X0.here hx rfl (hb hby d20_9) rfl ?_
      exact kz)
    obtain ⟨fs, hr, hrun, hended, hW, hsame⟩ := X0.leave (v := some (.int y1)) (fun h => by rw [Bd.returns] at h; cases h)
    refine ⟨_, _, pre0 _ (S3 _ ?_), hrun, hended, _, _, rfl, ?_, ⟨_, rfl⟩, hW, hsame.mono (by decide) (by decide)⟩
    · exact retI X0 hx Bd.returns (hb hby d20_10) hr
    · show QrmMax Z y0 y1 h0 n0 _ s₁.heap _
      rw [e0]
      exact ⟨congrArg (fun z => some (Value.int z)) (if_pos hc2_2).symm, N0, rfl⟩
  · have S4 : ∀ tz, oS p e below s₁ (mkF m 10 #[iv y0, iv y1] [(.int y0)]) tz → oS p e below s₁ (mkF m 0 #[iv y0, iv y1] []) tz := fun tz kz => S1 tz (by
      show oS p e below s₁ (mkF m 2 #[iv y0, iv y1] [(.int y1), (.int y0)]) _
      refine XS.icmpNo X0.here hx rfl (hb hby d20_2) rfl (XT.ii_lt_f hc2_2) ?_
      refine XS.iloadN X0.here hx rfl (hb hby d20_5) rfl ?_
      refine XS.goto X0.here hx rfl (pc0 := 6) (pc' := 10) rfl (hb hby d20_6) (by decide) (by decide) ?_
      exact kz)
    obtain ⟨fs, hr, hrun, hended, hW, hsame⟩ := X0.leave (v := some (.int y0)) (fun h => by rw [Bd.returns] at h; cases h)
    refine ⟨_, _, pre0 _ (S4 _ ?_), hrun, hended, _, _, rfl, ?_, ⟨_, rfl⟩, hW, hsame.mono (by decide) (by decide)⟩
    · exact retI X0 hx Bd.returns (hb hby d20_10) hr
    · show QrmMax Z y0 y1 h0 n0 _ s₁.heap _
      rw [e0]
      exact ⟨congrArg (fun z => some (Value.int z)) (if_neg hc2_2).symm, N0, rfl⟩
theorem own_ngt {i j : Nat} (hi : i ≤ j) (hj : j < 2147483648) : ¬ own_n j < own_n i := by
  simp only [Int32.lt_iff_toInt_lt, own_nI hj, own_nI (Nat.lt_of_le_of_lt hi hj)]; omega
theorem d19_17 : decode prog_72_method_4_code 17 = .ok (.iload 4, 2) := by decide +kernel
theorem d19_19 : decode prog_72_method_4_code 19 = .ok (.iload_n 1, 1) := by decide +kernel
theorem d19_20 : decode prog_72_method_4_code 20 = .ok (.if_icmp .gt 51, 3) := by decide +kernel
theorem d19_23 : decode prog_72_method_4_code 23 = .ok (.aload_n 2, 1) := by decide +kernel
theorem d19_24 : decode prog_72_method_4_code 24 = .ok (.aload_n 0, 1) := by decide +kernel
theorem d19_25 : decode prog_72_method_4_code 25 = .ok (.getfield 11, 3) := by decide +kernel
theorem d19_28 : decode prog_72_method_4_code 28 = .ok (.iload 4, 2) := by decide +kernel
theorem d19_30 : decode prog_72_method_4_code 30 = .ok (.iaload, 1) := by decide +kernel
theorem d19_31 : decode prog_72_method_4_code 31 = .ok (.daload, 1) := by decide +kernel
theorem d19_32 : decode prog_72_method_4_code 32 = .ok (.dstore 5, 2) := by decide +kernel
theorem d19_34 : decode prog_72_method_4_code 34 = .ok (.aload_n 3, 1) := by decide +kernel
theorem d19_35 : decode prog_72_method_4_code 35 = .ok (.iload 4, 2) := by decide +kernel
theorem d19_37 : decode prog_72_method_4_code 37 = .ok (.dload 5, 2) := by decide +kernel
theorem d19_39 : decode prog_72_method_4_code 39 = .ok (.aload_n 3, 1) := by decide +kernel
theorem d19_40 : decode prog_72_method_4_code 40 = .ok (.aload_n 0, 1) := by decide +kernel
theorem d19_41 : decode prog_72_method_4_code 41 = .ok (.getfield 18, 3) := by decide +kernel
theorem d19_44 : decode prog_72_method_4_code 44 = .ok (.iload 4, 2) := by decide +kernel
theorem d19_46 : decode prog_72_method_4_code 46 = .ok (.iaload, 1) := by decide +kernel
theorem d19_47 : decode prog_72_method_4_code 47 = .ok (.daload, 1) := by decide +kernel
theorem d19_48 : decode prog_72_method_4_code 48 = .ok (.dmul, 1) := by decide +kernel
theorem d19_49 : decode prog_72_method_4_code 49 = .ok (.dconst 1, 1) := by decide +kernel
theorem d19_50 : decode prog_72_method_4_code 50 = .ok (.dload 5, 2) := by decide +kernel
theorem d19_52 : decode prog_72_method_4_code 52 = .ok (.dsub, 1) := by decide +kernel
theorem d19_53 : decode prog_72_method_4_code 53 = .ok (.aload_n 3, 1) := by decide +kernel
theorem d19_54 : decode prog_72_method_4_code 54 = .ok (.aload_n 0, 1) := by decide +kernel
theorem d19_55 : decode prog_72_method_4_code 55 = .ok (.getfield 15, 3) := by decide +kernel
theorem d19_58 : decode prog_72_method_4_code 58 = .ok (.iload 4, 2) := by decide +kernel
theorem d19_60 : decode prog_72_method_4_code 60 = .ok (.iaload, 1) := by decide +kernel
theorem d19_61 : decode prog_72_method_4_code 61 = .ok (.daload, 1) := by decide +kernel
theorem d19_62 : decode prog_72_method_4_code 62 = .ok (.dmul, 1) := by decide +kernel
theorem d19_63 : decode prog_72_method_4_code 63 = .ok (.dadd, 1) := by decide +kernel
theorem d19_64 : decode prog_72_method_4_code 64 = .ok (.dastore, 1) := by decide +kernel
theorem d19_65 : decode prog_72_method_4_code 65 = .ok (.iinc 4 1, 3) := by decide +kernel
theorem d19_68 : decode prog_72_method_4_code 68 = .ok (.goto (-51), 3) := by decide +kernel
set_option maxRecDepth 65536 in
set_option maxHeartbeats 40000000 in
theorem own_Pt {p : Program} {l : Launch} {e : Env} {R : Room} {cells slots : Nat} {s : State} {m : MethodId} {args : Array Value} {below : List Frame} {meth : Method} {c : Code} {T0 : State} {locs : List Loc} {Z : State} {av0 : Array Value} {h0 : Heap} {n0 : Nat} (a0 : Addr) (av : Addr) (al : Addr) (ah : Addr) (au : Addr) (qa : Addr) (qb : Addr) (qc : Addr) (qd : Addr) (vr : Nat → Int32) (lw : Nat → Int32) (hg : Nat → Int32) (uq : Nat → Int32) (c1 : Nat → Int32) (c2 : Nat → Int32) (c3 : Nat → Int32) (c4 : Nat → Int32) (sz : Nat) (pb : Addr) (pr : Nat → UInt64) (ba : Addr) (gg : Nat → UInt64) (ln : Nat) (r : Nat) (n : Nat) (vv : Nat) (hN : Nat) (lN : Nat) (x5 : Slot) (x6 : Slot) (X0 : Stand p l e R s m args below meth c T0 locs cells slots) (hx : p.tables.exec = Jvm.exec) (hZ : Z.Warmed39 s.vm) (hw : ∀ d ∈ tables_1, d.before av0 Z = true) (hby : c.code = prog_72_method_4_code) (hml : c.maxLocals = 7) (hown : s.vm.findClass mN17.cls = some m.cls) (e0 : T0.heap = h0) (N0 : Fr n0 locs) (Z0 : n0 ≤ h0.size) (hD : own_Dia Z h0 a0 av al ah au qa qb qc qd vr lw hg uq c1 c2 c3 c4 sz) (hP : own_Ad Z h0 pb 8 pr) (hB : own_Ad Z h0 ba ln gg) (hln : ln < 1000) (hrl : r < ln) (hgb : n0 ≤ ba) (hnr : n ≤ r) (hv : vr n = own_n vv) (hvv : vv < 8) (hhN : hg n = own_n hN) (hlN : lw n = own_n lN) (hlt1 : hN < n) (hlt2 : lN < n) (nq1 : Jvm.Free.Fl.NoNaN64 (FP.dmul (pr vv) (gg hN))) (nq2 : Jvm.Free.Fl.NoNaN64 (FP.dsub FP.dconst1 (pr vv))) (nq3 : Jvm.Free.Fl.NoNaN64 (FP.dmul (FP.dsub FP.dconst1 (pr vv)) (gg lN))) (nq4 : Jvm.Free.Fl.NoNaN64 (FP.dadd (FP.dmul (pr vv) (gg hN)) (FP.dmul (FP.dsub FP.dconst1 (pr vv)) (gg lN)))) (hx56 : own_D2 x5 x6) :
    ∃ (T' : State) (h' : Heap) (locs' : List Loc), Stand p l e R s m args below meth c T' locs' cells slots ∧ T'.heap = h' ∧ Fr n0 locs' ∧ Keep h0 h' [ba] ∧ own_Ad Z h' ba ln (own_ud gg n (FP.dadd (FP.dmul (pr vv) (gg hN)) (FP.dmul (FP.dsub FP.dconst1 (pr vv)) (gg lN)))) ∧ ∀ tz, oS p e below T' (mkF m 17 #[rv a0, iv (own_n r), rv pb, rv ba, iv ((own_n (n + 1))), .val (.double (pr vv)), .second] []) tz → oS p e below T0 (mkF m 17 #[rv a0, iv (own_n r), rv pb, rv ba, iv (own_n n), x5, x6] []) tz := by
  obtain ⟨T1, X1, e1, st1⟩ := getF X0 hx hZ hown (host := "") (Or.inl (hw _ (own_w 13 rfl))) Via.refl e0 hD.Fav (g := (mkF m 25 #[rv a0, iv (own_n r), rv pb, rv ba, iv (own_n n), x5, x6] [(.ref a0), (.ref pb)])) rfl rfl (hb hby d19_25)
  obtain ⟨kc2, cl2, Ar2, qk2, Sz2, Ng2, Hs2, Gs2⟩ := id hD.Aav
  have hin2 : ¬ ((own_n n) < 0 ∨ cl2.slots.size ≤ ((own_n n)).toNatClampNeg) := own_inb (n := 1024) (k := n) Sz2 (by decide) (by omega)
  have hat2 : cl2.slots[((own_n n)).toNatClampNeg]? = some (.int (own_n vv)) := own_at (n := 1024) (k := n) (g := vr) Hs2 Sz2 (by decide) (by omega) hv
  obtain ⟨kc3, cl3, Ar3, qk3, Sz3, Ng3, Hs3, Gs3⟩ := id hP
  have hin3 : ¬ ((own_n vv) < 0 ∨ cl3.slots.size ≤ ((own_n vv)).toNatClampNeg) := own_inb (n := 8) (k := vv) Sz3 (by decide) (by omega)
  have hat3 : cl3.slots[((own_n vv)).toNatClampNeg]? = some (.double (pr vv)) := own_atD (n := 8) (k := vv) (g := pr) Hs3 Sz3 (by decide) (by omega) rfl
  obtain ⟨T4, X4, e4, st4⟩ := getF X1 hx hZ hown (host := "") (Or.inl (hw _ (own_w 17 rfl))) Via.refl e1 hD.Fah (g := (mkF m 41 #[rv a0, iv (own_n r), rv pb, rv ba, iv (own_n n), .val (.double (pr vv)), .second] [(.ref a0), (.ref ba), (.double (pr vv)), (.int (own_n n)), (.ref ba)])) rfl rfl (hb hby d19_41)
  obtain ⟨kc5, cl5, Ar5, qk5, Sz5, Ng5, Hs5, Gs5⟩ := id hD.Aah
  have hin5 : ¬ ((own_n n) < 0 ∨ cl5.slots.size ≤ ((own_n n)).toNatClampNeg) := own_inb (n := 1024) (k := n) Sz5 (by decide) (by omega)
  have hat5 : cl5.slots[((own_n n)).toNatClampNeg]? = some (.int (own_n hN)) := own_at (n := 1024) (k := n) (g := hg) Hs5 Sz5 (by decide) (by omega) hhN
  obtain ⟨kc6, cl6, Ar6, qk6, Sz6, Ng6, Hs6, Gs6⟩ := id hB
  have hin6 : ¬ ((own_n hN) < 0 ∨ cl6.slots.size ≤ ((own_n hN)).toNatClampNeg) := own_inb (n := ln) (k := hN) Sz6 (by omega) (by omega)
  have hat6 : cl6.slots[((own_n hN)).toNatClampNeg]? = some (.double (gg hN)) := own_atD (n := ln) (k := hN) (g := gg) Hs6 Sz6 (by omega) (by omega) rfl
  obtain ⟨T7, X7, e7, st7⟩ := getF X4 hx hZ hown (host := "") (Or.inl (hw _ (own_w 15 rfl))) Via.refl e4 hD.Fal (g := (mkF m 55 #[rv a0, iv (own_n r), rv pb, rv ba, iv (own_n n), .val (.double (pr vv)), .second] [(.ref a0), (.ref ba), (.double (FP.dsub FP.dconst1 (pr vv))), (.double (FP.dmul (pr vv) (gg hN))), (.int (own_n n)), (.ref ba)])) rfl rfl (hb hby d19_55)
  obtain ⟨kc8, cl8, Ar8, qk8, Sz8, Ng8, Hs8, Gs8⟩ := id hD.Aal
  have hin8 : ¬ ((own_n n) < 0 ∨ cl8.slots.size ≤ ((own_n n)).toNatClampNeg) := own_inb (n := 1024) (k := n) Sz8 (by decide) (by omega)
  have hat8 : cl8.slots[((own_n n)).toNatClampNeg]? = some (.int (own_n lN)) := own_at (n := 1024) (k := n) (g := lw) Hs8 Sz8 (by decide) (by omega) hlN
  obtain ⟨kc9, cl9, Ar9, qk9, Sz9, Ng9, Hs9, Gs9⟩ := id hB
  have hin9 : ¬ ((own_n lN) < 0 ∨ cl9.slots.size ≤ ((own_n lN)).toNatClampNeg) := own_inb (n := ln) (k := lN) Sz9 (by omega) (by omega)
  have hat9 : cl9.slots[((own_n lN)).toNatClampNeg]? = some (.double (gg lN)) := own_atD (n := ln) (k := lN) (g := gg) Hs9 Sz9 (by omega) (by omega) rfl
  obtain ⟨kc10, cl10, Ar10, qk10, Sz10, Ng10, Hs10, Gs10⟩ := id hB
  have hin10 : ¬ ((own_n n) < 0 ∨ cl10.slots.size ≤ ((own_n n)).toNatClampNeg) := own_inb (n := ln) (k := n) Sz10 (by omega) (by omega)
  obtain ⟨T11, h11, X11, e11, W11, st11⟩ := stD X7 hx hZ e7 Ar10 (j := (own_n n)) hin10 (g := (mkF m 64 #[rv a0, iv (own_n r), rv pb, rv ba, iv (own_n n), .val (.double (pr vv)), .second] [(.double (FP.dadd (FP.dmul (pr vv) (gg hN)) (FP.dmul (FP.dsub FP.dconst1 (pr vv)) (gg lN)))), (.int (own_n n)), (.ref ba)])) rfl rfl (hb hby d19_64)
  have N11 := Fr.snoc X11 N0 hgb
  have Z11 : n0 ≤ h11.size := Nat.le_trans Z0 (Nat.le_of_eq W11.size.symm)
  have K11 : Keep h0 h11 [ba] := (Keep.refl h0 [ba]).wr W11 (Or.inl (List.mem_of_getElem? (i := 0) rfl))
  have V11 : own_Ad Z h11 ba ln (own_ud gg n (FP.dadd (FP.dmul (pr vv) (gg hN)) (FP.dmul (FP.dsub FP.dconst1 (pr vv)) (gg lN)))) := own_arsetD (g := gg) (k := n) Ar10 qk10 Sz10 Ng10 Hs10 Gs10 W11 (by omega) (by omega)
  have S12 : ∀ tz, oS p e below T11 (mkF m 17 #[rv a0, iv (own_n r), rv pb, rv ba, iv ((own_n (n + 1))), .val (.double (pr vv)), .second] []) tz → oS p e below T0 (mkF m 17 #[rv a0, iv (own_n r), rv pb, rv ba, iv (own_n n), x5, x6] []) tz := fun tz kz => id (by
    show oS p e below T0 (mkF m 17 #[rv a0, iv (own_n r), rv pb, rv ba, iv (own_n n), x5, x6] []) _
    refine XS.iload X0.here hx rfl (hb hby d19_17) rfl ?_
    refine XS.iloadN X0.here hx rfl (hb hby d19_19) rfl ?_
    refine XS.icmpNo X0.here hx rfl (hb hby d19_20) rfl (XT.ii_gt_f (own_ngt hnr (by omega))) ?_
    refine XS.aloadN X0.here hx rfl (hb hby d19_23) rfl rfl ?_
    refine XS.aloadN X0.here hx rfl (hb hby d19_24) rfl rfl ?_
    refine st1 _ ?_
    refine XS.iload X1.here hx rfl (hb hby d19_28) rfl ?_
    refine X1.iaload hx (j := (own_n n)) (v := (.int (own_n vv))) (by rw [e1]; exact Ar2.1) (State.isArrayOf_alike hZ.alike Ar2.2.1) Ar2.2.2 hin2 hat2 (g := (mkF m 30 #[rv a0, iv (own_n r), rv pb, rv ba, iv (own_n n), x5, x6] [(.int (own_n n)), (.ref av), (.ref pb)])) rfl rfl (hb hby d19_30) _ ?_
    refine X1.daload hx (j := (own_n vv)) (v := (.double (pr vv))) (by rw [e1]; exact Ar3.1) (State.isArrayOf_alike hZ.alike Ar3.2.1) Ar3.2.2 hin3 hat3 (g := (mkF m 31 #[rv a0, iv (own_n r), rv pb, rv ba, iv (own_n n), x5, x6] [(.int (own_n vv)), (.ref pb)])) rfl rfl (hb hby d19_31) _ ?_
    refine XS.dstore X1.here hx rfl (hb hby d19_32) rfl (l' := #[rv a0, iv (own_n r), rv pb, rv ba, iv (own_n n), .val (.double (pr vv)), .second]) (by rcases hx56 with ⟨z, z2⟩ | ⟨y, z, z2⟩ <;> subst z z2 <;> rfl) ?_
    show oS p e below T1 (mkF m 34 #[rv a0, iv (own_n r), rv pb, rv ba, iv (own_n n), .val (.double (pr vv)), .second] []) _
    refine XS.aloadN X1.here hx rfl (hb hby d19_34) rfl rfl ?_
    refine XS.iload X1.here hx rfl (hb hby d19_35) rfl ?_
    refine XS.dload X1.here hx rfl (hb hby d19_37) rfl ?_
    refine XS.aloadN X1.here hx rfl (hb hby d19_39) rfl rfl ?_
    refine XS.aloadN X1.here hx rfl (hb hby d19_40) rfl rfl ?_
    refine st4 _ ?_
    refine XS.iload X4.here hx rfl (hb hby d19_44) rfl ?_
    refine X4.iaload hx (j := (own_n n)) (v := (.int (own_n hN))) (by rw [e4]; exact Ar5.1) (State.isArrayOf_alike hZ.alike Ar5.2.1) Ar5.2.2 hin5 hat5 (g := (mkF m 46 #[rv a0, iv (own_n r), rv pb, rv ba, iv (own_n n), .val (.double (pr vv)), .second] [(.int (own_n n)), (.ref ah), (.ref ba), (.double (pr vv)), (.int (own_n n)), (.ref ba)])) rfl rfl (hb hby d19_46) _ ?_
    refine X4.daload hx (j := (own_n hN)) (v := (.double (gg hN))) (by rw [e4]; exact Ar6.1) (State.isArrayOf_alike hZ.alike Ar6.2.1) Ar6.2.2 hin6 hat6 (g := (mkF m 47 #[rv a0, iv (own_n r), rv pb, rv ba, iv (own_n n), .val (.double (pr vv)), .second] [(.int (own_n hN)), (.ref ba), (.double (pr vv)), (.int (own_n n)), (.ref ba)])) rfl rfl (hb hby d19_47) _ ?_
    refine XS.dmulS X4.here hx rfl (hb hby d19_48) rfl nq1 rfl ?_
    show oS p e below T4 (mkF m 49 #[rv a0, iv (own_n r), rv pb, rv ba, iv (own_n n), .val (.double (pr vv)), .second] [(.double (FP.dmul (pr vv) (gg hN))), (.int (own_n n)), (.ref ba)]) _
    refine XS.dconst1 X4.here hx rfl (hb hby d19_49) rfl ?_
    refine XS.dload X4.here hx rfl (hb hby d19_50) rfl ?_
    refine XS.dsubS X4.here hx rfl (hb hby d19_52) rfl nq2 rfl ?_
    refine XS.aloadN X4.here hx rfl (hb hby d19_53) rfl rfl ?_
    refine XS.aloadN X4.here hx rfl (hb hby d19_54) rfl rfl ?_
    refine st7 _ ?_
    refine XS.iload X7.here hx rfl (hb hby d19_58) rfl ?_
    refine X7.iaload hx (j := (own_n n)) (v := (.int (own_n lN))) (by rw [e7]; exact Ar8.1) (State.isArrayOf_alike hZ.alike Ar8.2.1) Ar8.2.2 hin8 hat8 (g := (mkF m 60 #[rv a0, iv (own_n r), rv pb, rv ba, iv (own_n n), .val (.double (pr vv)), .second] [(.int (own_n n)), (.ref al), (.ref ba), (.double (FP.dsub FP.dconst1 (pr vv))), (.double (FP.dmul (pr vv) (gg hN))), (.int (own_n n)), (.ref ba)])) rfl rfl (hb hby d19_60) _ ?_
    refine X7.daload hx (j := (own_n lN)) (v := (.double (gg lN))) (by rw [e7]; exact Ar9.1) (State.isArrayOf_alike hZ.alike Ar9.2.1) Ar9.2.2 hin9 hat9 (g := (mkF m 61 #[rv a0, iv (own_n r), rv pb, rv ba, iv (own_n n), .val (.double (pr vv)), .second] [(.int (own_n lN)), (.ref ba), (.double (FP.dsub FP.dconst1 (pr vv))), (.double (FP.dmul (pr vv) (gg hN))), (.int (own_n n)), (.ref ba)])) rfl rfl (hb hby d19_61) _ ?_
    refine XS.dmulS X7.here hx rfl (hb hby d19_62) rfl nq3 rfl ?_
    show oS p e below T7 (mkF m 63 #[rv a0, iv (own_n r), rv pb, rv ba, iv (own_n n), .val (.double (pr vv)), .second] [(.double (FP.dmul (FP.dsub FP.dconst1 (pr vv)) (gg lN))), (.double (FP.dmul (pr vv) (gg hN))), (.int (own_n n)), (.ref ba)]) _
    refine XS.daddS X7.here hx rfl (hb hby d19_63) rfl nq4 rfl ?_
    refine st11 _ ?_
    refine XT.iincV X11.here hx rfl (1 : Int32) (hb hby d19_65) (by decide) rfl (l' := #[rv a0, iv (own_n r), rv pb, rv ba, iv (((own_n n) + (1 : Int32))), .val (.double (pr vv)), .second]) rfl ?_
    show oS p e below T11 (mkF m 68 #[rv a0, iv (own_n r), rv pb, rv ba, iv (((own_n n) + (1 : Int32))), .val (.double (pr vv)), .second] []) _
    rw [own_nadd (by omega)]
    show oS p e below T11 (mkF m 68 #[rv a0, iv (own_n r), rv pb, rv ba, iv ((own_n (n + 1))), .val (.double (pr vv)), .second] []) _
    refine XS.goto X11.here hx rfl (pc0 := 68) (pc' := 17) rfl (hb hby d19_68) (by decide) (by decide) ?_
    exact kz)
  exact ⟨T11, _, _, X11, e11, N11, K11, V11, fun tz kz => S12 tz kz⟩
set_option maxRecDepth 65536 in
set_option maxHeartbeats 40000000 in
theorem own_Pl {p : Program} {l : Launch} {e : Env} {R : Room} {cells slots : Nat} {s : State} {m : MethodId} {args : Array Value} {below : List Frame} {meth : Method} {c : Code} {T0 : State} {locs : List Loc} {Z : State} {av0 : Array Value} {h0 : Heap} {n0 : Nat} (a0 : Addr) (av : Addr) (al : Addr) (ah : Addr) (au : Addr) (qa : Addr) (qb : Addr) (qc : Addr) (qd : Addr) (vr : Nat → Int32) (lw : Nat → Int32) (hg : Nat → Int32) (uq : Nat → Int32) (c1 : Nat → Int32) (c2 : Nat → Int32) (c3 : Nat → Int32) (c4 : Nat → Int32) (sz : Nat) (pb : Addr) (pr : Nat → UInt64) (ba : Addr) (gg : Nat → UInt64) (ln : Nat) (r : Nat) (n : Nat) (x5 : Slot) (x6 : Slot) (X0 : Stand p l e R s m args below meth c T0 locs cells slots) (hx : p.tables.exec = Jvm.exec) (hZ : Z.Warmed39 s.vm) (hw : ∀ d ∈ tables_1, d.before av0 Z = true) (hby : c.code = prog_72_method_4_code) (hml : c.maxLocals = 7) (hown : s.vm.findClass mN17.cls = some m.cls) (e0 : T0.heap = h0) (N0 : Fr n0 locs) (Z0 : n0 ≤ h0.size) (hln : ln < 1000) (hnr : r < n) (hnn : n < 1000) :
    ∃ (T' : State) (h' : Heap) (locs' : List Loc), Stand p l e R s m args below meth c T' locs' cells slots ∧ T'.heap = h' ∧ Fr n0 locs' ∧ h' = h0 ∧ ∀ tz, oS p e below T' (mkF m 71 #[rv a0, iv (own_n r), rv pb, rv ba, iv (own_n n), x5, x6] []) tz → oS p e below T0 (mkF m 17 #[rv a0, iv (own_n r), rv pb, rv ba, iv (own_n n), x5, x6] []) tz := by
  have S1 : ∀ tz, oS p e below T0 (mkF m 71 #[rv a0, iv (own_n r), rv pb, rv ba, iv (own_n n), x5, x6] []) tz → oS p e below T0 (mkF m 17 #[rv a0, iv (own_n r), rv pb, rv ba, iv (own_n n), x5, x6] []) tz := fun tz kz => id (by
    show oS p e below T0 (mkF m 17 #[rv a0, iv (own_n r), rv pb, rv ba, iv (own_n n), x5, x6] []) _
    refine XS.iload X0.here hx rfl (hb hby d19_17) rfl ?_
    refine XS.iloadN X0.here hx rfl (hb hby d19_19) rfl ?_
    refine XS.icmpYes X0.here hx rfl (pc0 := 20) (pc' := 71) rfl (hb hby d19_20) rfl (XT.ii_gt_t (own_nlt hnr (by omega)).2) (by decide) (by decide) ?_
    exact kz)
  exact ⟨T0, _, _, X0, e0, N0, rfl, fun tz kz => S1 tz kz⟩
def own_Wt (vr lw hg : Nat → Int32) (pr : Nat → UInt64) (kk : Nat → Int) (Wt : Nat → Int) (r : Nat) : Prop := Wt 0 = 0 ∧ Wt 1 = 64 ∧ (∀ n, n ≤ r → 0 ≤ Wt n ∧ Wt n ≤ 64) ∧ ∀ n, 2 ≤ n → n ≤ r → ∃ vv hN lN : Nat, vr n = own_n vv ∧ vv < 8 ∧ hg n = own_n hN ∧ lw n = own_n lN ∧ hN < n ∧ lN < n ∧ Own.own_D 3 (kk vv) (pr vv) ∧ 0 ≤ kk vv ∧ kk vv ≤ 8 ∧ 8 * Wt n = kk vv * Wt hN + (8 - kk vv) * Wt lN
set_option maxHeartbeats 40000000 in
theorem own_Ploop {p : Program} {l : Launch} {e : Env} {R : Room} {s : State} {m : MethodId} {args : Array Value} {below : List Frame} {meth : Method} {c : Code} {cells slots : Nat} {Z : State} {av0 : Array Value} {n0 : Nat} (a0 av al ah au qa qb qc qd : Addr) (vr lw hg uq c1 c2 c3 c4 : Nat → Int32) (sz : Nat) (pb : Addr) (pr : Nat → UInt64) (ba : Addr) (ln r : Nat) (kk Wt : Nat → Int)
    (hx : p.tables.exec = Jvm.exec) (hZ : Z.Warmed39 s.vm) (hw : ∀ d ∈ tables_1, d.before av0 Z = true) (hby : c.code = prog_72_method_4_code) (hml : c.maxLocals = 7) (hown : s.vm.findClass mN17.cls = some m.cls) (hln : ln < 1000) (hrl : r < ln) (hgb : n0 ≤ ba) (hW : own_Wt vr lw hg pr kk Wt r) (hnb : ∀ y ∈ [a0, av, al, ah, au, qa, qb, qc, qd], y ∉ [ba]) (hpb : pb ≠ ba) :
    ∀ (t n : Nat) (gg : Nat → UInt64) (x5 x6 : Slot) (T0 : State) (locs : List Loc) (h0 : Heap), own_D2 x5 x6 → r + 1 ≤ n + t → 2 ≤ n → n < 1000 → (∀ i, i < n → Own.own_D 6 (Wt i) (gg i)) → Stand p l e R s m args below meth c T0 locs cells slots → T0.heap = h0 → Fr n0 locs → n0 ≤ h0.size → own_Dia Z h0 a0 av al ah au qa qb qc qd vr lw hg uq c1 c2 c3 c4 sz → own_Ad Z h0 pb 8 pr → own_Ad Z h0 ba ln gg →
    ∃ (T' : State) (h' : Heap) (locs' : List Loc) (gg' : Nat → UInt64) (n' : Nat) (x5' x6' : Slot), Stand p l e R s m args below meth c T' locs' cells slots ∧ T'.heap = h' ∧ Fr n0 locs' ∧ Keep h0 h' [ba] ∧ own_Ad Z h' ba ln gg' ∧ (∀ i, i ≤ r → Own.own_D 6 (Wt i) (gg' i)) ∧ ∀ t, oS p e below T' (mkF m 71 #[rv a0, iv (own_n r), rv pb, rv ba, iv (own_n n'), x5', x6'] []) t → oS p e below T0 (mkF m 17 #[rv a0, iv (own_n r), rv pb, rv ba, iv (own_n n), x5, x6] []) t := by
  intro t
  induction t with
  | zero =>
    intro n gg x5 x6 T0 locs h0 hx56 hn h2 h1000 hg' X0 e0 N0 Z0 hD hP hB
    obtain ⟨T1, h1, l1, X1, e1, N1, rfl, S1⟩ := own_Pl a0 av al ah au qa qb qc qd vr lw hg uq c1 c2 c3 c4 sz pb pr ba gg ln r n x5 x6 X0 hx hZ hw hby hml hown e0 N0 Z0 hln (by omega) (by omega)
    exact ⟨T1, _, l1, gg, n, x5, x6, X1, e1, N1, Keep.refl _ _, hB, fun i hi => hg' i (by omega), S1⟩
  | succ t ih =>
    intro n gg x5 x6 T0 locs h0 hx56 hn h2 h1000 hg' X0 e0 N0 Z0 hD hP hB
    by_cases hnr : r < n
    · obtain ⟨T1, h1, l1, X1, e1, N1, rfl, S1⟩ := own_Pl a0 av al ah au qa qb qc qd vr lw hg uq c1 c2 c3 c4 sz pb pr ba gg ln r n x5 x6 X0 hx hZ hw hby hml hown e0 N0 Z0 hln hnr (by omega)
      exact ⟨T1, _, l1, gg, n, x5, x6, X1, e1, N1, Keep.refl _ _, hB, fun i hi => hg' i (by omega), S1⟩
    obtain ⟨vv, hN, lN, v1, v2, v3, v4, v5, v6, v7, v8, v9, v10⟩ := hW.2.2.2 n h2 (by omega)
    have bh := hW.2.2.1 hN (by omega)
    have bl := hW.2.2.1 lN (by omega)
    obtain ⟨d1, d2, d3, d4⟩ := Own.own_node v7 (hg' hN v5) (hg' lN v6) v8 v9 bh.1 bh.2 bl.1 bl.2 v10
    have nn : ∀ {k : Nat} {i : Int} {y : UInt64}, Own.own_D k i y → Jvm.Free.Fl.NoNaN64 y := fun q => Jvm.Free.Fl.val64_no.mpr (Own.own_D_nn q)
    obtain ⟨T1, h1, l1, X1, e1, N1, K1, A1, S1⟩ := own_Pt a0 av al ah au qa qb qc qd vr lw hg uq c1 c2 c3 c4 sz pb pr ba gg ln r n vv hN lN x5 x6 X0 hx hZ hw hby hml hown e0 N0 Z0 hD hP hB hln hrl hgb (by omega) v1 v2 v3 v4 v5 v6 (nn d1) (nn d2) (nn d3) (nn d4) hx56
    obtain ⟨T2, h2', l2, gg', n', x5', x6', X2, e2, N2, K2, A2, g2, S2⟩ := ih (n + 1) _ _ _ T1 l1 h1 (Or.inr ⟨_, rfl, rfl⟩) (by omega) (by omega) (by omega) (fun i hi => by
      unfold own_ud
      by_cases q : i = n
      · rw [if_pos q, q]; exact d4
      · rw [if_neg q]; exact hg' i (by omega)) X1 e1 N1 (Nat.le_trans Z0 K1.1) (hD.keep K1 hnb) (hP.keep K1 (ninS hpb nin0)) A1
    exact ⟨T2, h2', l2, gg', n', x5', x6', X2, e2, N2, K1.trans K2 (fun y hy => Or.inl hy), A2, g2, fun t k => S1 t (S2 t k)⟩
theorem d19_0 : decode prog_72_method_4_code 0 = .ok (.iload_n 1, 1) := by decide +kernel
theorem d19_1 : decode prog_72_method_4_code 1 = .ok (.iconst 1, 1) := by decide +kernel
theorem d19_2 : decode prog_72_method_4_code 2 = .ok (.iadd, 1) := by decide +kernel
theorem d19_3 : decode prog_72_method_4_code 3 = .ok (.iconst 2, 1) := by decide +kernel
theorem d19_4 : decode prog_72_method_4_code 4 = .ok (.invokestatic 97, 3) := by decide +kernel
theorem d19_7 : decode prog_72_method_4_code 7 = .ok (.newarray .double, 2) := by decide +kernel
theorem d19_9 : decode prog_72_method_4_code 9 = .ok (.astore_n 3, 1) := by decide +kernel
theorem d19_10 : decode prog_72_method_4_code 10 = .ok (.aload_n 3, 1) := by decide +kernel
theorem d19_11 : decode prog_72_method_4_code 11 = .ok (.iconst 1, 1) := by decide +kernel
theorem d19_12 : decode prog_72_method_4_code 12 = .ok (.dconst 1, 1) := by decide +kernel
theorem d19_13 : decode prog_72_method_4_code 13 = .ok (.dastore, 1) := by decide +kernel
theorem d19_14 : decode prog_72_method_4_code 14 = .ok (.iconst 2, 1) := by decide +kernel
theorem d19_15 : decode prog_72_method_4_code 15 = .ok (.istore 4, 2) := by decide +kernel
theorem d19_71 : decode prog_72_method_4_code 71 = .ok (.aload_n 3, 1) := by decide +kernel
theorem d19_72 : decode prog_72_method_4_code 72 = .ok (.iload_n 1, 1) := by decide +kernel
theorem d19_73 : decode prog_72_method_4_code 73 = .ok (.daload, 1) := by decide +kernel
theorem d19_74 : decode prog_72_method_4_code 74 = .ok (.dreturn, 1) := by decide +kernel
def QrmProb (Z : State) (a0 : Addr) (av : Addr) (al : Addr) (ah : Addr) (au : Addr) (qa : Addr) (qb : Addr) (qc : Addr) (qd : Addr) (vr : Nat → Int32) (lw : Nat → Int32) (hg : Nat → Int32) (uq : Nat → Int32) (c1 : Nat → Int32) (c2 : Nat → Int32) (c3 : Nat → Int32) (c4 : Nat → Int32) (sz : Nat) (pb : Addr) (pr : Nat → UInt64) (r : Nat) (kk : Nat → Int) (Wt : Nat → Int) (h0 : Heap) (n0 : Nat) (v : Option Value) (h : Heap) (L : List Loc) : Prop := ∃ y : UInt64, v = some (.double y) ∧ Fr n0 L ∧ Keep h0 h [] ∧ Own.own_D 6 (Wt r) y
set_option maxRecDepth 65536 in
set_option maxHeartbeats 40000000 in
theorem rmProb (l : Launch) (Z : State) (av0 : Array Value) (hw : ∀ d ∈ tables_1, d.before av0 Z = true) (ws : List Jvm.Cond) (a0 : Addr) (av : Addr) (al : Addr) (ah : Addr) (au : Addr) (qa : Addr) (qb : Addr) (qc : Addr) (qd : Addr) (vr : Nat → Int32) (lw : Nat → Int32) (hg : Nat → Int32) (uq : Nat → Int32) (c1 : Nat → Int32) (c2 : Nat → Int32) (c3 : Nat → Int32) (c4 : Nat → Int32) (sz : Nat) (pb : Addr) (pr : Nat → UInt64) (r : Nat) (kk : Nat → Int) (Wt : Nat → Int) (h0 : Heap) (n0 : Nat) (Z0 : n0 ≤ h0.size) (hD : own_Dia Z h0 a0 av al ah au qa qb qc qd vr lw hg uq c1 c2 c3 c4 sz) (hP : own_Ad Z h0 pb 8 pr) (hr : r < 16) (hW : own_Wt vr lw hg pr kk Wt r) :
    own_Met l mN17 prog_72_method_4_code 7 (some .double) ws ({ frames := 1, cells := 1, slots := 18, locals := 13 } : Room) #[(.ref a0), (.int (own_n r)), (.ref pb)] Z h0 (QrmProb Z a0 av al ah au qa qb qc qd vr lw hg uq c1 c2 c3 c4 sz pb pr r kk Wt h0 n0) := by
  refine MetFree.of_bodySF (plainFor_of_name pn_DecisionDiagram) hisR ?_
  intro p e s m args below meth c s₁ Bd hml0 hP hK
  obtain ⟨rfl, hZ, hh⟩ := hP
  have hml : c.maxLocals = 7 := hml0
  obtain ⟨hx, hby, hown, hnm, X0, e0⟩ := own_start Bd hml0 hh
  have N0 := Fr.nil n0
  have pre0 : ∀ tz, oS p e below s₁ (mkF m 0 #[rv a0, iv (own_n r), rv pb, .unset, .unset, .unset, .unset] []) tz → Steps p.tables e below (s₁.setTop (entryFrame m #[(.ref a0), (.int (own_n r)), (.ref pb)] 7)) tz := fun tz kz => castTop (by first | (simp [entryFrame, mkF, argsToLocals, Value.category]; done) | rfl) kz
  obtain ⟨_, T1, Lc1, X1, hQ1, st1⟩ := own_callS (W := 0) (y := mN16) X0 hx hZ hown (hw _ (own_w 129 rfl)) (hw _ (own_w 130 rfl)) (hw _ (own_w 95 rfl)) (hw _ (own_w 131 rfl)) (by decide) (rmMax l Z av0 hw [] (own_n (r + 1)) (2 : Int32) h0 n0 Z0 ) (by decide) (by decide) (g := (mkF m 4 #[rv a0, iv (own_n r), rv pb, .unset, .unset, .unset, .unset] [(.int 2), (.int (own_n (r + 1)))])) rfl (by rw [hml]; rfl) (argsL := [(.int (own_n (r + 1))), (.int 2)]) (rest := []) (lenOf pd__II_I rfl) rfl (hb hby d19_4) rfl e0 (by decide : 0 + 0 ≤ _) (by decide : 0 + 0 ≤ _)
  obtain ⟨rfl, N1q, hh1⟩ := hQ1
  have N1 := Fr.app N0 N1q
  have e1 : T1.heap = h0 := hh1
  obtain ⟨T2, h2, k2, X2, e2, E2, A2, st2⟩ := newP X1 hx hZ (hw _ (own_w 2 rfl)) e1 (g := (mkF m 7 #[rv a0, iv (own_n r), rv pb, .unset, .unset, .unset, .unset] [(.int (own_n (max (r + 1) 2)))])) rfl (hb hby d19_7) rfl (own_nge (by omega)) (cap := 18) (by rw [own_nc (by omega)]; omega) (by decide) (by decide) (by decide)
  obtain ⟨b2, g2⟩ : ∃ z, z = h0.size := ⟨_, rfl⟩
  rw [← g2] at A2 st2
  have ne_a0_b2 : a0 ≠ b2 := Nat.ne_of_lt (Nat.lt_of_lt_of_le hD.E.lt (Nat.le_of_eq g2.symm))
  have ne_ah_b2 : ah ≠ b2 := Nat.ne_of_lt (Nat.lt_of_lt_of_le hD.Aah.lt (Nat.le_of_eq g2.symm))
  have ne_al_b2 : al ≠ b2 := Nat.ne_of_lt (Nat.lt_of_lt_of_le hD.Aal.lt (Nat.le_of_eq g2.symm))
  have ne_au_b2 : au ≠ b2 := Nat.ne_of_lt (Nat.lt_of_lt_of_le hD.Aau.lt (Nat.le_of_eq g2.symm))
  have ne_av_b2 : av ≠ b2 := Nat.ne_of_lt (Nat.lt_of_lt_of_le hD.Aav.lt (Nat.le_of_eq g2.symm))
  have ne_pb_b2 : pb ≠ b2 := Nat.ne_of_lt (Nat.lt_of_lt_of_le hP.lt (Nat.le_of_eq g2.symm))
  have ne_qa_b2 : qa ≠ b2 := Nat.ne_of_lt (Nat.lt_of_lt_of_le hD.Aqa.lt (Nat.le_of_eq g2.symm))
  have ne_qb_b2 : qb ≠ b2 := Nat.ne_of_lt (Nat.lt_of_lt_of_le hD.Aqb.lt (Nat.le_of_eq g2.symm))
  have ne_qc_b2 : qc ≠ b2 := Nat.ne_of_lt (Nat.lt_of_lt_of_le hD.Aqc.lt (Nat.le_of_eq g2.symm))
  have ne_qd_b2 : qd ≠ b2 := Nat.ne_of_lt (Nat.lt_of_lt_of_le hD.Aqd.lt (Nat.le_of_eq g2.symm))
  have ge_b2 : n0 ≤ b2 := Nat.le_trans Z0 (Nat.le_of_eq g2.symm)
  have sz_b2 : h0.size ≤ b2 := Nat.le_of_eq g2.symm
  have Z2 : n0 ≤ h2.size := Nat.le_trans Z0 E2.1
  have K2 : Keep h0 h2 [] := (Keep.refl h0 []).ext E2
  have V2 : own_Ad Z h2 b2 (max (r + 1) 2) (fun _ => 0) := own_newD (max (r + 1) 2) (by omega) A2
  obtain ⟨kc3, cl3, Ar3, qk3, Sz3, Ng3, Hs3, Gs3⟩ := id V2
  have hin3 : ¬ ((1 : Int32) < 0 ∨ cl3.slots.size ≤ ((1 : Int32)).toNatClampNeg) := own_inb (n := (max (r + 1) 2)) (k := 1) Sz3 (by omega) (by omega)
  obtain ⟨T4, h4, X4, e4, W4, st4⟩ := stD X2 hx hZ e2 Ar3 (j := (1 : Int32)) hin3 (g := (mkF m 13 #[rv a0, iv (own_n r), rv pb, rv b2, .unset, .unset, .unset] [(.double FP.dconst1), (.int 1), (.ref b2)])) rfl rfl (hb hby d19_13)
  have N4 := Fr.snoc X4 N1 ge_b2
  have Z4 : n0 ≤ h4.size := Nat.le_trans Z2 (Nat.le_of_eq W4.size.symm)
  have K4 : Keep h0 h4 [] := K2.wr W4 (Or.inr sz_b2)
  have V4 : own_Ad Z h4 b2 (max (r + 1) 2) (own_ud (fun _ => 0) 1 FP.dconst1) := own_arsetD (g := (fun _ => 0)) (k := 1) Ar3 qk3 Sz3 Ng3 Hs3 Gs3 W4 (by omega) (by omega)
  have S5 : ∀ tz, oS p e below T4 (mkF m 17 #[rv a0, iv (own_n r), rv pb, rv b2, iv 2, .unset, .unset] []) tz → oS p e below s₁ (mkF m 0 #[rv a0, iv (own_n r), rv pb, .unset, .unset, .unset, .unset] []) tz := fun tz kz => id (by
    show oS p e below s₁ (mkF m 0 #[rv a0, iv (own_n r), rv pb, .unset, .unset, .unset, .unset] []) _
    refine XS.iloadN X0.here hx rfl (hb hby d19_0) rfl ?_
    refine XT.iconstV X0.here hx rfl (1 : Int32) (hb hby d19_1) (by decide) ?_
    refine XS.iadd X0.here hx rfl (hb hby d19_2) rfl ?_
    show oS p e below s₁ (mkF m 3 #[rv a0, iv (own_n r), rv pb, .unset, .unset, .unset, .unset] [(.int ((own_n r) + (1 : Int32)))]) _
    rw [own_nadd (by omega)]
    show oS p e below s₁ (mkF m 3 #[rv a0, iv (own_n r), rv pb, .unset, .unset, .unset, .unset] [(.int (own_n (r + 1)))]) _
    refine XT.iconstV X0.here hx rfl (2 : Int32) (hb hby d19_3) (by decide) ?_
    refine st1 _ ?_
    show oS p e below T1 (mkF m 7 #[rv a0, iv (own_n r), rv pb, .unset, .unset, .unset, .unset] [(.int (own_mx (own_n (r + 1)) (2 : Int32)))]) _
    rw [own_mxn (by omega)]
    show oS p e below T1 (mkF m 7 #[rv a0, iv (own_n r), rv pb, .unset, .unset, .unset, .unset] [(.int (own_n (max (r + 1) 2)))]) _
    refine st2 _ ?_
    refine XS.astoreN X2.here hx rfl (hb hby d19_9) rfl rfl (l' := #[rv a0, iv (own_n r), rv pb, rv b2, .unset, .unset, .unset]) rfl ?_
    refine XS.aloadN X2.here hx rfl (hb hby d19_10) rfl rfl ?_
    show oS p e below T2 (mkF m 11 #[rv a0, iv (own_n r), rv pb, rv b2, .unset, .unset, .unset] [(.ref b2)]) _
    refine XT.iconstV X2.here hx rfl (1 : Int32) (hb hby d19_11) (by decide) ?_
    refine XS.dconst1 X2.here hx rfl (hb hby d19_12) rfl ?_
    refine st4 _ ?_
    refine XT.iconstV X4.here hx rfl (2 : Int32) (hb hby d19_14) (by decide) ?_
    refine XS.istore X4.here hx rfl (hb hby d19_15) rfl (l' := #[rv a0, iv (own_n r), rv pb, rv b2, iv 2, .unset, .unset]) rfl ?_
    exact kz)
  have f7 := ((hD.E.ext E2).wr W4)
  have f8 := ((hD.Fav.ext E2).other W4 (Or.inl ne_a0_b2))
  have f9 := ((hD.Fal.ext E2).other W4 (Or.inl ne_a0_b2))
  have f10 := ((hD.Fah.ext E2).other W4 (Or.inl ne_a0_b2))
  have f11 := ((hD.Fau.ext E2).other W4 (Or.inl ne_a0_b2))
  have f12 := ((hD.Fqa.ext E2).other W4 (Or.inl ne_a0_b2))
  have f13 := ((hD.Fqb.ext E2).other W4 (Or.inl ne_a0_b2))
  have f14 := ((hD.Fqc.ext E2).other W4 (Or.inl ne_a0_b2))
  have f15 := ((hD.Fqd.ext E2).other W4 (Or.inl ne_a0_b2))
  have f16 := ((hD.Fs.ext E2).other W4 (Or.inl ne_a0_b2))
  have f17 := ((hD.Aav.ext E2).other W4 ne_av_b2)
  have f18 := ((hD.Aal.ext E2).other W4 ne_al_b2)
  have f19 := ((hD.Aah.ext E2).other W4 ne_ah_b2)
  have f20 := ((hD.Aau.ext E2).other W4 ne_au_b2)
  have f21 := ((hD.Aqa.ext E2).other W4 ne_qa_b2)
  have f22 := ((hD.Aqb.ext E2).other W4 ne_qb_b2)
  have f23 := ((hD.Aqc.ext E2).other W4 ne_qc_b2)
  have f24 := ((hD.Aqd.ext E2).other W4 ne_qd_b2)
  have D25 : own_Dia Z h4 a0 av al ah au qa qb qc qd vr lw hg uq c1 c2 c3 c4 sz := own_Dia.mk f7 f8 f9 f10 f11 f12 f13 f14 f15 f16 f17 f18 f19 f20 f21 f22 f23 f24
  have hg1_6 : ∀ i, i < 2 → Own.own_D 6 (Wt i) ((own_ud (fun _ => 0) 1 FP.dconst1) i) := fun i hi => by
    rcases (show i = 0 ∨ i = 1 by omega) with rfl | rfl
    · rw [hW.1]; exact Own.own_zero6
    · rw [hW.2.1]; exact Own.own_one6
  have f26 := ((hP.ext E2).other W4 ne_pb_b2)
  obtain ⟨T6, _, l6, gg6, nf6, xa6, xb6, X6, rfl, N6, K6, A6, W6, st6⟩ := own_Ploop a0 av al ah au qa qb qc qd vr lw hg uq c1 c2 c3 c4 sz pb pr b2 (max (r + 1) 2) r kk Wt hx hZ hw hby hml hown (by omega) (by omega) ge_b2 hW (own_dj hD.lt (allS sz_b2 all0)) ne_pb_b2 (r + 1) 2 _ _ _ T4 _ _ (Or.inl ⟨rfl, rfl⟩) (by omega) (by decide) (by decide) hg1_6 X4 e4 N4 Z4 D25 f26 V4
  have e6 : T6.heap = T6.heap := rfl
  have Zk6 : n0 ≤ T6.heap.size := Nat.le_trans Z4 K6.1
  have Kk6 : Keep h0 T6.heap [] := K4.trans K6 (allS (Or.inr sz_b2) all0)
  obtain ⟨kc27, cl27, Ar27, qk27, Sz27, Ng27, Hs27, Gs27⟩ := id A6
  have hin27 : ¬ ((own_n r) < 0 ∨ cl27.slots.size ≤ ((own_n r)).toNatClampNeg) := own_inb (n := (max (r + 1) 2)) (k := r) Sz27 (by omega) (by omega)
  have hat27 : cl27.slots[((own_n r)).toNatClampNeg]? = some (.double (gg6 r)) := own_atD (n := (max (r + 1) 2)) (k := r) (g := gg6) Hs27 Sz27 (by omega) (by omega) rfl
  have S28 : ∀ tz, oS p e below T6 (mkF m 74 #[rv a0, iv (own_n r), rv pb, rv b2, iv (own_n nf6), xa6, xb6] [(.double (gg6 r))]) tz → oS p e below s₁ (mkF m 0 #[rv a0, iv (own_n r), rv pb, .unset, .unset, .unset, .unset] []) tz := fun tz kz => S5 tz (by
    show oS p e below T4 (mkF m 17 #[rv a0, iv (own_n r), rv pb, rv b2, iv 2, .unset, .unset] []) _
    refine st6 _ ?_
    show oS p e below T6 (mkF m 71 #[rv a0, iv (own_n r), rv pb, rv b2, iv (own_n nf6), xa6, xb6] []) _
    refine XS.aloadN X6.here hx rfl (hb hby d19_71) rfl rfl ?_
    refine XS.iloadN X6.here hx rfl (hb hby d19_72) rfl ?_
    refine X6.daload hx (j := (own_n r)) (v := (.double (gg6 r))) (by rw [e6]; exact Ar27.1) (State.isArrayOf_alike hZ.alike Ar27.2.1) Ar27.2.2 hin27 hat27 (g := (mkF m 73 #[rv a0, iv (own_n r), rv pb, rv b2, iv (own_n nf6), xa6, xb6] [(.int (own_n r)), (.ref b2)])) rfl rfl (hb hby d19_73) _ ?_
    exact kz)
  obtain ⟨fs, hr, hrun, hended, hW, hsame⟩ := X6.leave (v := some (.double (gg6 r))) (fun h => by rw [Bd.returns] at h; cases h)
  refine ⟨_, _, pre0 _ (S28 _ ?_), hrun, hended, _, _, rfl, ?_, ⟨_, rfl⟩, hW, hsame.mono (by decide) (by decide)⟩
  · jvm_step X6.here [X6.here.top, hx, (hb hby d19_74), X6.method', Bd.returns, narrow]
    first | (intro acts; rw [hr _ acts rfl rfl rfl]) | (refine ⟨meth, X6.method', ⟨_, Bd.returns, rfl⟩, fun acts => ?_⟩; rw [hr _ acts rfl rfl rfl])
    exact Steps.refl _
  · show QrmProb Z a0 av al ah au qa qb qc qd vr lw hg uq c1 c2 c3 c4 sz pb pr r kk Wt h0 n0 _ T6.heap _
    rw [e6]
    exact ⟨_, rfl, N6, Kk6, W6 r (Nat.le_refl _)⟩
abbrev own_MX : Int32 := 2147483647
def own_vr (ii jj : Nat) : Nat → Int32 := own_up (own_up (own_up (own_up (fun _ => 0) 0 own_MX) 1 own_MX) 2 (own_n ii)) 3 (own_n jj)
def own_lw : Nat → Int32 := own_up (own_up (fun _ => 0) 2 (0 : Int32)) 3 (0 : Int32)
def own_hg : Nat → Int32 := own_up (own_up (fun _ => 0) 2 (1 : Int32)) 3 (1 : Int32)
def own_s0 : Nat := own_cs (own_n 3) (own_n 0) (own_n 1)
def own_S (Z : State) (h : Heap) (a0 av al ah au qa qb qc qd : Addr) (ii jj : Nat) : Bool → Prop
  | false => ∃ uq c1 c2 c3 c4 : Nat → Int32, own_Dia Z h a0 av al ah au qa qb qc qd (own_vr ii jj) own_lw own_hg uq c1 c2 c3 c4 4 ∧ own_UI uq 4 ∧ ∀ k, c1 k = -1
  | true => ∃ uq c1 c2 c3 c4 : Nat → Int32, own_Dia Z h a0 av al ah au qa qb qc qd (own_up (own_vr ii jj) 4 (own_n jj)) (own_up own_lw 4 (own_n 1)) (own_up own_hg 4 (own_n 0)) uq c1 c2 c3 c4 5 ∧ own_UI uq 5 ∧ (∀ k, c1 k = -1 ∨ c1 k = own_n 3) ∧ c1 own_s0 = own_n 3 ∧ c2 own_s0 = own_n 0 ∧ c3 own_s0 = own_n 1 ∧ c4 own_s0 = own_n 4
def own_r (x y : Nat) : Nat := if x = y then x else if x = 1 then 3 else 4
theorem own_mnl {k : Nat} (h : k < 8) : own_min (own_n k) own_MX = own_n k := if_neg (by
  rw [Int32.lt_iff_toInt_lt, own_nI (by omega), show own_MX.toInt = 2147483647 from rfl]; omega)
theorem own_mnr {k : Nat} (h : k < 8) : own_min own_MX (own_n k) = own_n k := if_pos (by
  rw [Int32.lt_iff_toInt_lt, own_nI (by omega), show own_MX.toInt = 2147483647 from rfl]; omega)
theorem own_mnk {i k : Nat} (h : i < k) (hk : k < 8) : own_min (own_n i) (own_n k) = own_n i := if_neg (by
  rw [Int32.lt_iff_toInt_lt, own_nI (by omega), own_nI (by omega)]; omega)
theorem own_mng {i k : Nat} (h : k < i) (hk : i < 8) : own_min (own_n i) (own_n k) = own_n k := if_pos (by
  rw [Int32.lt_iff_toInt_lt, own_nI (by omega), own_nI (by omega)]; omega)
theorem own_mns (y : Int32) : own_min y y = y := by unfold own_min; split <;> rfl
theorem own_mxx : own_min own_MX own_MX = own_MX := own_mns _
theorem own_mxn8 {k : Nat} (h : k < 8) : ¬ own_MX = own_n k := fun q => by
  have := congrArg Int32.toInt q
  rw [own_nI (by omega), show own_MX.toInt = 2147483647 from rfl] at this; omega
theorem own_c0 : own_n 0 = 0 := rfl
theorem own_c1 : own_n 1 = 1 := rfl
theorem own_c2 : own_n 2 = 2 := rfl
theorem own_c3 : own_n 3 = 3 := rfl
theorem own_c4 : own_n 4 = 4 := rfl
theorem own_c5 : own_n 5 = 5 := rfl
theorem own_ite3 (l : Launch) (Z : State) (av0 : Array Value) (hw : ∀ d ∈ tables_1, d.before av0 Z = true) (ws : List Jvm.Cond) (a0 av al ah au qa qb qc qd : Addr) (ii jj : Nat) (x y : Nat) (e : Bool) (h0 : Heap) (n0 : Nat) (Z0 : n0 ≤ h0.size) (hS : own_Sep n0 [a0, av, al, ah, au, qa, qb, qc, qd]) (hSt : own_S Z h0 a0 av al ah au qa qb qc qd ii jj e) (hii : ii < 8) (hjj : jj < 8) (hne : ¬ ii = jj) (hx2 : x < 2) (hy2 : y < 2) :
    own_Met l mN15 prog_72_method_3_code 14 (some .int) ws ({ frames := 3, cells := 7, slots := 103, locals := 48 } : Room) #[.ref a0, (.int (own_n 3)), (.int (own_n x)), (.int (own_n y))] Z h0 (fun v h L => v = some (.int (own_n (own_r x y))) ∧ Fr n0 L ∧ Keep h0 h [a0, av, al, ah, au, qa, qb, qc, qd] ∧ own_S Z h a0 av al ah au qa qb qc qd ii jj (e || (decide (x = 0) && decide (y = 1)))) := by
  have hn1 : ¬ own_n ii = own_n jj := own_nne (by omega) (by omega) hne
  have hn2 : ¬ own_n jj = own_n ii := fun q => hn1 q.symm
  have hE : Exa Z h0 a0 "com/example/prolong/prolong/tree/DecisionDiagram" := by
    cases e
    · obtain ⟨_, _, _, _, _, hD, -⟩ := hSt; exact hD.E
    · obtain ⟨_, _, _, _, _, hD, -⟩ := hSt; exact hD.E
  rcases (show x = 0 ∨ x = 1 by omega) with rfl | rfl <;> rcases (show y = 0 ∨ y = 1 by omega) with rfl | rfl
  · exact own_weak (rmIteP l Z av0 hw ws a0 (own_n 3) (own_n 0) (own_n 0) (own_n 0) h0 n0 Z0 hE (own_kpe _ _) (by decide)) (fun v h L q => ⟨q.1, q.2.1, q.2.2 ▸ Keep.refl _ _, by rw [q.2.2]; cases e <;> exact hSt⟩)
  · cases e
    · obtain ⟨uq, c1, c2, c3, c4, hD, hU, hc⟩ := hSt
      refine own_weak (rmIteB l Z av0 hw ws a0 av al ah au qa qb qc qd (own_vr ii jj) own_lw own_hg uq c1 c2 c3 c4 4 3 0 1 (own_n jj) h0 n0 Z0 hD hS hU (by decide) (by decide) (by decide) (by decide) (by decide) (show own_min (own_n jj) (own_min own_MX own_MX) = own_n jj by rw [own_mxx, own_mnl hjj]) (by decide) (by decide) (by decide) (by rw [hc]; decide) rfl rfl rfl (own_mxn8 hjj) (own_mxn8 hjj) (fun n h1 h2 => by
      rcases (show n = 2 ∨ n = 3 by omega) with rfl | rfl
      all_goals simp [own_vr, own_lw, own_hg, own_up, own_c0, own_c1, own_c2, own_c3, own_c4, own_c5, hn1, hn2])) (fun v h L q => ?_)
      obtain ⟨k, hk, q1, q2, q3, q4, q5⟩ := q
      exact ⟨q1, q2, q3, _, _, _, _, _, q5, q4, fun i => by unfold own_up; split; exact Or.inr rfl; exact Or.inl (hc i), if_pos rfl, if_pos rfl, if_pos rfl, if_pos rfl⟩
    · obtain ⟨uq, c1, c2, c3, c4, hD, hU, hc, g1, g2, g3, g4⟩ := hSt
      exact own_weak (rmIteH l Z av0 hw ws a0 av al ah au qa qb qc qd _ _ _ uq c1 c2 c3 c4 5 (own_n 3) (own_n 0) (own_n 1) (own_n 4) h0 n0 Z0 hD (by decide) (by decide) (by decide) (by decide) g1 g2 g3 g4 (by decide)) (fun v h L q => ⟨q.1, q.2.1, q.2.2 ▸ Keep.refl _ _, by rw [q.2.2]; exact ⟨uq, c1, c2, c3, c4, hD, hU, hc, g1, g2, g3, g4⟩⟩)
  · exact own_weak (rmIteP l Z av0 hw ws a0 (own_n 3) (own_n 1) (own_n 0) (own_n 3) h0 n0 Z0 hE (own_kpf (by decide) (by decide)) (by decide)) (fun v h L q => ⟨q.1, q.2.1, q.2.2 ▸ Keep.refl _ _, by rw [q.2.2]; cases e <;> exact hSt⟩)
  · exact own_weak (rmIteP l Z av0 hw ws a0 (own_n 3) (own_n 1) (own_n 1) (own_n 1) h0 n0 Z0 hE (own_kpe _ _) (by decide)) (fun v h L q => ⟨q.1, q.2.1, q.2.2 ▸ Keep.refl _ _, by rw [q.2.2]; cases e <;> exact hSt⟩)
def own_W (ki kj w4 w5 w6 : Int) : Nat → Int
  | 0 => 0
  | 1 => 64
  | 2 => 8 * ki
  | 3 => 8 * kj
  | 4 => w4
  | 5 => w5
  | _ => w6
theorem own_Wt.le {vr lw hg : Nat → Int32} {pr : Nat → UInt64} {kk Wt : Nat → Int} {r r' : Nat} (h : own_Wt vr lw hg pr kk Wt r) (q : r' ≤ r) : own_Wt vr lw hg pr kk Wt r' :=
  ⟨h.1, h.2.1, fun n hn => h.2.2.1 n (by omega), fun n h2 hn => h.2.2.2 n h2 (by omega)⟩
theorem own_cvx {k x y : Int} (k0 : 0 ≤ k) (k8 : k ≤ 8) (x0 : 0 ≤ x) (x8 : x ≤ 8) (y0 : 0 ≤ y) (y8 : y ≤ 8) : 0 ≤ k * x + (8 - k) * y ∧ k * x + (8 - k) * y ≤ 64 := by
  have b1 : 0 ≤ k * x := Int.mul_nonneg k0 x0
  have b2 : k * x ≤ k * 8 := Int.mul_le_mul_of_nonneg_left x8 k0
  have b3 : 0 ≤ (8 - k) * y := Int.mul_nonneg (by omega) y0
  have b4 : (8 - k) * y ≤ (8 - k) * 8 := Int.mul_le_mul_of_nonneg_left y8 (by omega)
  omega
theorem own_Wt.step {vr lw hg : Nat → Int32} {pr : Nat → UInt64} {kk Wt : Nat → Int} {r : Nat} (h : own_Wt vr lw hg pr kk Wt r) (h1 : 1 ≤ r) {vv hN lN : Nat} {x y : Int} (hv : vv < 8) (hh : hN ≤ r) (hl : lN ≤ r) (hp : Own.own_D 3 (kk vv) (pr vv)) (k0 : 0 ≤ kk vv) (k8 : kk vv ≤ 8) (ex : Wt hN = 8 * x) (ey : Wt lN = 8 * y) (e : Wt (r + 1) = kk vv * x + (8 - kk vv) * y) :
    own_Wt (own_up vr (r + 1) (own_n vv)) (own_up lw (r + 1) (own_n lN)) (own_up hg (r + 1) (own_n hN)) pr kk Wt (r + 1) := by
  have bx := h.2.2.1 hN hh
  have by' := h.2.2.1 lN hl
  rw [ex] at bx
  rw [ey] at by'
  have hc := own_cvx k0 k8 (x := x) (y := y) (by omega) (by omega) (by omega) (by omega)
  refine ⟨h.1, h.2.1, fun n hn => ?_, fun n h2 hn => ?_⟩
  · rcases (show n ≤ r ∨ n = r + 1 by omega) with q | rfl
    · exact h.2.2.1 n q
    · rw [e]; exact hc
  · rcases (show n ≤ r ∨ n = r + 1 by omega) with q | rfl
    · obtain ⟨a, b, c, z⟩ := h.2.2.2 n h2 q
      refine ⟨a, b, c, ?_⟩
      have hq : ¬ n = r + 1 := by omega
      simp only [own_up, if_neg hq]; exact z
    · refine ⟨vv, hN, lN, if_pos rfl, hv, if_pos rfl, if_pos rfl, by omega, by omega, hp, k0, k8, ?_⟩
      rw [e, ex, ey, Int.mul_add, Int.mul_left_comm 8, Int.mul_left_comm 8 (8 - kk vv)]
theorem own_base3 {ii jj : Nat} {pr : Nat → UInt64} {kk : Nat → Int} {ki kj : Int} (w4 w5 w6 : Int) (hii : ii < 8) (hjj : jj < 8) (ei : kk ii = ki) (ej : kk jj = kj) (i0 : 0 ≤ ki) (i8 : ki ≤ 8) (j0 : 0 ≤ kj) (j8 : kj ≤ 8) (pi : Own.own_D 3 ki (pr ii)) (pj : Own.own_D 3 kj (pr jj)) :
    own_Wt (own_vr ii jj) own_lw own_hg pr kk (own_W ki kj w4 w5 w6) 3 := by
  refine ⟨rfl, rfl, fun n hn => ?_, fun n h2 hn => ?_⟩
  · rcases (show n = 0 ∨ n = 1 ∨ n = 2 ∨ n = 3 by omega) with rfl | rfl | rfl | rfl
    · show (0 : Int) ≤ 0 ∧ (0 : Int) ≤ 64; omega
    · show (0 : Int) ≤ 64 ∧ (64 : Int) ≤ 64; omega
    · show 0 ≤ 8 * ki ∧ 8 * ki ≤ 64; omega
    · show 0 ≤ 8 * kj ∧ 8 * kj ≤ 64; omega
  · rcases (show n = 2 ∨ n = 3 by omega) with rfl | rfl
    · exact ⟨ii, 1, 0, rfl, hii, rfl, rfl, by decide, by decide, by rw [ei]; exact pi, by rw [ei]; exact i0, by rw [ei]; exact i8, by rw [ei]; show 8 * (8 * ki) = ki * 64 + (8 - ki) * 0; omega⟩
    · exact ⟨jj, 1, 0, rfl, hjj, rfl, rfl, by decide, by decide, by rw [ej]; exact pj, by rw [ej]; exact j0, by rw [ej]; exact j8, by rw [ej]; show 8 * (8 * kj) = kj * 64 + (8 - kj) * 0; omega⟩
theorem own_base4 {ii jj : Nat} {pr : Nat → UInt64} {kk : Nat → Int} {ki kj : Int} (w5 w6 : Int) (hii : ii < 8) (hjj : jj < 8) (ei : kk ii = ki) (ej : kk jj = kj) (i0 : 0 ≤ ki) (i8 : ki ≤ 8) (j0 : 0 ≤ kj) (j8 : kj ≤ 8) (pi : Own.own_D 3 ki (pr ii)) (pj : Own.own_D 3 kj (pr jj)) :
    own_Wt (own_up (own_vr ii jj) 4 (own_n jj)) (own_up own_lw 4 (own_n 1)) (own_up own_hg 4 (own_n 0)) pr kk (own_W ki kj (8 * (8 - kj)) w5 w6) 4 :=
  (own_base3 (8 * (8 - kj)) w5 w6 hii hjj ei ej i0 i8 j0 j8 pi pj).step (vv := jj) (hN := 0) (lN := 1) (x := 0) (y := 8) (by decide) hjj (by decide) (by decide) (by rw [ej]; exact pj) (by rw [ej]; exact j0) (by rw [ej]; exact j8) rfl rfl (by rw [ej]; show 8 * (8 - kj) = kj * 0 + (8 - kj) * 8; omega)
theorem own_expand (ki kj : Int) : (8 - ki) * (8 - kj) = 64 - 8 * ki - 8 * kj + ki * kj ∧ (8 - ki) * kj = 8 * kj - ki * kj ∧ ki * (8 - kj) = 8 * ki - ki * kj ∧ (8 - kj) * (8 - ki) = 64 - 8 * ki - 8 * kj + ki * kj ∧ (8 - kj) * ki = 8 * ki - ki * kj ∧ kj * (8 - ki) = 8 * kj - ki * kj ∧ kj * ki = ki * kj := by
  have h1 : (8 - ki) * (8 - kj) = 8 * 8 - 8 * kj - (ki * 8 - ki * kj) := by rw [Int.sub_mul, Int.mul_sub, Int.mul_sub]
  have h2 : (8 - ki) * kj = 8 * kj - ki * kj := Int.sub_mul _ _ _
  have h3 : ki * (8 - kj) = ki * 8 - ki * kj := Int.mul_sub _ _ _
  have h4 := Int.mul_comm (8 - kj) (8 - ki)
  have h5 := Int.mul_comm (8 - kj) ki
  have h6 := Int.mul_comm kj (8 - ki)
  have h7 := Int.mul_comm kj ki
  omega
def own_num (ki kj t00 t01 t10 t11 : Int) : Int := t00 * ((8 - ki) * (8 - kj)) + t01 * ((8 - ki) * kj) + t10 * (ki * (8 - kj)) + t11 * (ki * kj)

def own_QF (Z : State) (a0 av al ah au qa qb qc qd : Addr) (pr : Nat → UInt64) (kk : Nat → Int) (num : Int) (h0 : Heap) (n0 : Nat) (v : Option Value) (h : Heap) (L : List Loc) : Prop := ∃ (r : Nat) (Wt : Nat → Int) (vr lw hg uq c1 c2 c3 c4 : Nat → Int32) (sz : Nat), v = some (.int (own_n r)) ∧ Fr n0 L ∧ Keep h0 h [a0, av, al, ah, au, qa, qb, qc, qd] ∧ r < 16 ∧ own_Dia Z h a0 av al ah au qa qb qc qd vr lw hg uq c1 c2 c3 c4 sz ∧ own_Wt vr lw hg pr kk Wt r ∧ Wt r = num
theorem own_F0_0 (l : Launch) (Z : State) (av0 : Array Value) (hw : ∀ d ∈ tables_1, d.before av0 Z = true) (ws : List Jvm.Cond) (a0 av al ah au qa qb qc qd : Addr) (ii jj : Nat) (pr : Nat → UInt64) (kk : Nat → Int) (ki kj : Int) (h0 : Heap) (n0 : Nat) (Z0 : n0 ≤ h0.size) (hS : own_Sep n0 [a0, av, al, ah, au, qa, qb, qc, qd]) (hSt : own_S Z h0 a0 av al ah au qa qb qc qd ii jj false) (hii : ii < 8) (hjj : jj < 8) (hne : ¬ ii = jj) (ei : kk ii = ki) (ej : kk jj = kj) (i0 : 0 ≤ ki) (i8 : ki ≤ 8) (j0 : 0 ≤ kj) (j8 : kj ≤ 8) (pi : Own.own_D 3 ki (pr ii)) (pj : Own.own_D 3 kj (pr jj)) (hlt : ii < jj) :
    own_Met l mN15 prog_72_method_3_code 14 (some .int) ws ({ frames := 3, cells := 7, slots := 103, locals := 48 } : Room) #[.ref a0, (.int (own_n 2)), (.int (own_n 0)), (.int (own_n 0))] Z h0 (own_QF Z a0 av al ah au qa qb qc qd pr kk (own_num ki kj 0 0 0 0) h0 n0) := by
  have hn1 : ¬ own_n ii = own_n jj := own_nne (by omega) (by omega) hne
  have hn2 : ¬ own_n jj = own_n ii := fun q => hn1 q.symm
  obtain ⟨uq, c1, c2, c3, c4, hD, hU, hc⟩ := hSt
  exact own_weak (rmIteP l Z av0 hw ws a0 (own_n 2) (own_n 0) (own_n 0) (own_n 0) h0 n0 Z0 hD.E (own_kpe _ _) (by decide)) (fun v h L q => ⟨0, (own_W ki kj 0 0 0), _, _, _, _, _, _, _, _, 4, q.1, q.2.1, q.2.2 ▸ Keep.refl _ _, by decide, q.2.2.symm ▸ hD, (own_base3 0 0 0 hii hjj ei ej i0 i8 j0 j8 pi pj).le (by decide), (by simp only [own_num, own_W]; have := own_expand ki kj; omega)⟩)
theorem own_F0_1 (l : Launch) (Z : State) (av0 : Array Value) (hw : ∀ d ∈ tables_1, d.before av0 Z = true) (ws : List Jvm.Cond) (a0 av al ah au qa qb qc qd : Addr) (ii jj : Nat) (pr : Nat → UInt64) (kk : Nat → Int) (ki kj : Int) (h0 : Heap) (n0 : Nat) (Z0 : n0 ≤ h0.size) (hS : own_Sep n0 [a0, av, al, ah, au, qa, qb, qc, qd]) (hSt : own_S Z h0 a0 av al ah au qa qb qc qd ii jj false) (hii : ii < 8) (hjj : jj < 8) (hne : ¬ ii = jj) (ei : kk ii = ki) (ej : kk jj = kj) (i0 : 0 ≤ ki) (i8 : ki ≤ 8) (j0 : 0 ≤ kj) (j8 : kj ≤ 8) (pi : Own.own_D 3 ki (pr ii)) (pj : Own.own_D 3 kj (pr jj)) (hlt : jj < ii) :
    own_Met l mN15 prog_72_method_3_code 14 (some .int) ws ({ frames := 3, cells := 7, slots := 103, locals := 48 } : Room) #[.ref a0, (.int (own_n 2)), (.int (own_n 0)), (.int (own_n 0))] Z h0 (own_QF Z a0 av al ah au qa qb qc qd pr kk (own_num ki kj 0 0 0 0) h0 n0) := by
  have hn1 : ¬ own_n ii = own_n jj := own_nne (by omega) (by omega) hne
  have hn2 : ¬ own_n jj = own_n ii := fun q => hn1 q.symm
  obtain ⟨uq, c1, c2, c3, c4, hD, hU, hc⟩ := hSt
  exact own_weak (rmIteP l Z av0 hw ws a0 (own_n 2) (own_n 0) (own_n 0) (own_n 0) h0 n0 Z0 hD.E (own_kpe _ _) (by decide)) (fun v h L q => ⟨0, (own_W ki kj 0 0 0), _, _, _, _, _, _, _, _, 4, q.1, q.2.1, q.2.2 ▸ Keep.refl _ _, by decide, q.2.2.symm ▸ hD, (own_base3 0 0 0 hii hjj ei ej i0 i8 j0 j8 pi pj).le (by decide), (by simp only [own_num, own_W]; have := own_expand ki kj; omega)⟩)
theorem own_F1_0 (l : Launch) (Z : State) (av0 : Array Value) (hw : ∀ d ∈ tables_1, d.before av0 Z = true) (ws : List Jvm.Cond) (a0 av al ah au qa qb qc qd : Addr) (ii jj : Nat) (pr : Nat → UInt64) (kk : Nat → Int) (ki kj : Int) (h0 : Heap) (n0 : Nat) (Z0 : n0 ≤ h0.size) (hS : own_Sep n0 [a0, av, al, ah, au, qa, qb, qc, qd]) (hSt : own_S Z h0 a0 av al ah au qa qb qc qd ii jj true) (hii : ii < 8) (hjj : jj < 8) (hne : ¬ ii = jj) (ei : kk ii = ki) (ej : kk jj = kj) (i0 : 0 ≤ ki) (i8 : ki ≤ 8) (j0 : 0 ≤ kj) (j8 : kj ≤ 8) (pi : Own.own_D 3 ki (pr ii)) (pj : Own.own_D 3 kj (pr jj)) (hlt : ii < jj) :
    own_Met l mN15 prog_72_method_3_code 14 (some .int) ws ({ frames := 3, cells := 7, slots := 103, locals := 48 } : Room) #[.ref a0, (.int (own_n 2)), (.int (own_n 0)), (.int (own_n 4))] Z h0 (own_QF Z a0 av al ah au qa qb qc qd pr kk (own_num ki kj 1 0 0 0) h0 n0) := by
  have hn1 : ¬ own_n ii = own_n jj := own_nne (by omega) (by omega) hne
  have hn2 : ¬ own_n jj = own_n ii := fun q => hn1 q.symm
  obtain ⟨uq, c1, c2, c3, c4, hD, hU, hc, g1, g2, g3, g4⟩ := hSt
  exact own_weak (rmIteB l Z av0 hw ws a0 av al ah au qa qb qc qd (own_up (own_vr ii jj) 4 (own_n jj)) (own_up own_lw 4 (own_n 1)) (own_up own_hg 4 (own_n 0)) uq c1 c2 c3 c4 5 2 0 4 (own_n ii) h0 n0 Z0 hD hS hU (by decide) (by decide) (by decide) (by decide) (by decide) (show own_min (own_n ii) (own_min own_MX (own_n jj)) = own_n ii by rw [own_mnr hjj, own_mnk hlt hjj]) (by decide) (by decide) (by decide) (by rcases hc _ with q | q <;> rw [q] <;> decide) rfl rfl rfl (own_mxn8 hii) hn2 (fun n h1 h2 => by
      rcases (show n = 2 ∨ n = 3 ∨ n = 4 by omega) with rfl | rfl | rfl
      all_goals simp [own_vr, own_lw, own_hg, own_up, own_c0, own_c1, own_c2, own_c3, own_c4, own_c5, hn1, hn2])) (fun v h L q => by
    obtain ⟨k, hk, q1, q2, q3, q4, q5⟩ := q
    exact ⟨5, (own_W ki kj (8 * (8 - kj)) (ki * 0 + (8 - ki) * (8 - kj)) 0), _, _, _, _, _, _, _, _, 6, q1, q2, q3, by decide, q5, (own_base4 (ki * 0 + (8 - ki) * (8 - kj)) 0 hii hjj ei ej i0 i8 j0 j8 pi pj).step (vv := ii) (hN := 0) (lN := 4) (x := 0) (y := (8 - kj)) (by decide) hii (by decide) (by decide) (by rw [ei]; exact pi) (by rw [ei]; exact i0) (by rw [ei]; exact i8) rfl rfl (by rw [ei]; rfl), (by simp only [own_num, own_W]; have := own_expand ki kj; omega)⟩)
theorem own_F1_1 (l : Launch) (Z : State) (av0 : Array Value) (hw : ∀ d ∈ tables_1, d.before av0 Z = true) (ws : List Jvm.Cond) (a0 av al ah au qa qb qc qd : Addr) (ii jj : Nat) (pr : Nat → UInt64) (kk : Nat → Int) (ki kj : Int) (h0 : Heap) (n0 : Nat) (Z0 : n0 ≤ h0.size) (hS : own_Sep n0 [a0, av, al, ah, au, qa, qb, qc, qd]) (hSt : own_S Z h0 a0 av al ah au qa qb qc qd ii jj true) (hii : ii < 8) (hjj : jj < 8) (hne : ¬ ii = jj) (ei : kk ii = ki) (ej : kk jj = kj) (i0 : 0 ≤ ki) (i8 : ki ≤ 8) (j0 : 0 ≤ kj) (j8 : kj ≤ 8) (pi : Own.own_D 3 ki (pr ii)) (pj : Own.own_D 3 kj (pr jj)) (hlt : jj < ii) :
    own_Met l mN15 prog_72_method_3_code 14 (some .int) ws ({ frames := 3, cells := 7, slots := 103, locals := 48 } : Room) #[.ref a0, (.int (own_n 2)), (.int (own_n 0)), (.int (own_n 4))] Z h0 (own_QF Z a0 av al ah au qa qb qc qd pr kk (own_num ki kj 1 0 0 0) h0 n0) := by
  have hn1 : ¬ own_n ii = own_n jj := own_nne (by omega) (by omega) hne
  have hn2 : ¬ own_n jj = own_n ii := fun q => hn1 q.symm
  obtain ⟨uq, c1, c2, c3, c4, hD, hU, hc, g1, g2, g3, g4⟩ := hSt
  exact own_weak (rmItePB l Z av0 hw ws a0 av al ah au qa qb qc qd (own_up (own_vr ii jj) 4 (own_n jj)) (own_up own_lw 4 (own_n 1)) (own_up own_hg 4 (own_n 0)) uq c1 c2 c3 c4 5 2 0 4 (own_n jj) 0 0 0 (own_n ii) h0 n0 Z0 hD hS hU (by decide) (by decide) (by decide) (by decide) (by decide) (show own_min (own_n ii) (own_min own_MX (own_n jj)) = own_n jj by rw [own_mnr hjj, own_mng hlt hii]) (by decide) (by decide) (by decide) (by rcases hc _ with q | q <;> rw [q] <;> decide) (by decide) hn1 (by decide) (by decide) (by decide) ⟨fun q => absurd q (own_mxn8 hjj), fun _ => rfl⟩ ⟨fun _ => rfl, fun q => absurd rfl q⟩ ⟨fun q => absurd q (own_mxn8 hjj), fun _ => rfl⟩ ⟨fun _ => rfl, fun q => absurd rfl q⟩ (own_kpe _ _) (by decide) (by decide) (fun n h1 h2 => by
      rcases (show n = 2 ∨ n = 3 ∨ n = 4 by omega) with rfl | rfl | rfl
      all_goals simp [own_vr, own_lw, own_hg, own_up, own_c0, own_c1, own_c2, own_c3, own_c4, own_c5, hn1, hn2]) rfl hn1 rfl rfl (own_mxn8 hii) (own_mxn8 hii) (by rcases hc _ with q | q <;> rw [q] <;> decide) (show own_min (own_n ii) (own_min own_MX own_MX) = own_n ii by rw [own_mxx, own_mnl hii]) (fun n h1 h2 => by
      rcases (show n = 2 ∨ n = 3 ∨ n = 4 by omega) with rfl | rfl | rfl
      all_goals simp [own_vr, own_lw, own_hg, own_up, own_c0, own_c1, own_c2, own_c3, own_c4, own_c5, hn1, hn2])) (fun v h L q => by
    obtain ⟨_, _, _, _, _, q1, q2, q3, q5⟩ := q
    exact ⟨6, (own_W ki kj (8 * (8 - kj)) (8 * (8 - ki)) (kj * 0 + (8 - kj) * (8 - ki))), _, _, _, _, _, _, _, _, 7, q1, q2, q3, by decide, q5, ((own_base4 (8 * (8 - ki)) (kj * 0 + (8 - kj) * (8 - ki)) hii hjj ei ej i0 i8 j0 j8 pi pj).step (vv := ii) (hN := 0) (lN := 1) (x := 0) (y := 8) (by decide) hii (by decide) (by decide) (by rw [ei]; exact pi) (by rw [ei]; exact i0) (by rw [ei]; exact i8) rfl rfl (by rw [ei]; show 8 * (8 - ki) = ki * 0 + (8 - ki) * 8; omega)).step (vv := jj) (hN := 0) (lN := 5) (x := 0) (y := (8 - ki)) (by decide) hjj (by decide) (by decide) (by rw [ej]; exact pj) (by rw [ej]; exact j0) (by rw [ej]; exact j8) rfl rfl (by rw [ej]; rfl), (by simp only [own_num, own_W]; have := own_expand ki kj; omega)⟩)
theorem own_F2_0 (l : Launch) (Z : State) (av0 : Array Value) (hw : ∀ d ∈ tables_1, d.before av0 Z = true) (ws : List Jvm.Cond) (a0 av al ah au qa qb qc qd : Addr) (ii jj : Nat) (pr : Nat → UInt64) (kk : Nat → Int) (ki kj : Int) (h0 : Heap) (n0 : Nat) (Z0 : n0 ≤ h0.size) (hS : own_Sep n0 [a0, av, al, ah, au, qa, qb, qc, qd]) (hSt : own_S Z h0 a0 av al ah au qa qb qc qd ii jj false) (hii : ii < 8) (hjj : jj < 8) (hne : ¬ ii = jj) (ei : kk ii = ki) (ej : kk jj = kj) (i0 : 0 ≤ ki) (i8 : ki ≤ 8) (j0 : 0 ≤ kj) (j8 : kj ≤ 8) (pi : Own.own_D 3 ki (pr ii)) (pj : Own.own_D 3 kj (pr jj)) (hlt : ii < jj) :
    own_Met l mN15 prog_72_method_3_code 14 (some .int) ws ({ frames := 3, cells := 7, slots := 103, locals := 48 } : Room) #[.ref a0, (.int (own_n 2)), (.int (own_n 0)), (.int (own_n 3))] Z h0 (own_QF Z a0 av al ah au qa qb qc qd pr kk (own_num ki kj 0 1 0 0) h0 n0) := by
  have hn1 : ¬ own_n ii = own_n jj := own_nne (by omega) (by omega) hne
  have hn2 : ¬ own_n jj = own_n ii := fun q => hn1 q.symm
  obtain ⟨uq, c1, c2, c3, c4, hD, hU, hc⟩ := hSt
  exact own_weak (rmIteB l Z av0 hw ws a0 av al ah au qa qb qc qd (own_vr ii jj) own_lw own_hg uq c1 c2 c3 c4 4 2 0 3 (own_n ii) h0 n0 Z0 hD hS hU (by decide) (by decide) (by decide) (by decide) (by decide) (show own_min (own_n ii) (own_min own_MX (own_n jj)) = own_n ii by rw [own_mnr hjj, own_mnk hlt hjj]) (by decide) (by decide) (by decide) (by rw [hc]; decide) rfl rfl rfl (own_mxn8 hii) hn2 (fun n h1 h2 => by
      rcases (show n = 2 ∨ n = 3 by omega) with rfl | rfl
      all_goals simp [own_vr, own_lw, own_hg, own_up, own_c0, own_c1, own_c2, own_c3, own_c4, own_c5, hn1, hn2])) (fun v h L q => by
    obtain ⟨k, hk, q1, q2, q3, q4, q5⟩ := q
    exact ⟨4, (own_W ki kj (ki * 0 + (8 - ki) * kj) 0 0), _, _, _, _, _, _, _, _, 5, q1, q2, q3, by decide, q5, (own_base3 (ki * 0 + (8 - ki) * kj) 0 0 hii hjj ei ej i0 i8 j0 j8 pi pj).step (vv := ii) (hN := 0) (lN := 3) (x := 0) (y := kj) (by decide) hii (by decide) (by decide) (by rw [ei]; exact pi) (by rw [ei]; exact i0) (by rw [ei]; exact i8) rfl rfl (by rw [ei]; rfl), (by simp only [own_num, own_W]; have := own_expand ki kj; omega)⟩)
theorem own_F2_1 (l : Launch) (Z : State) (av0 : Array Value) (hw : ∀ d ∈ tables_1, d.before av0 Z = true) (ws : List Jvm.Cond) (a0 av al ah au qa qb qc qd : Addr) (ii jj : Nat) (pr : Nat → UInt64) (kk : Nat → Int) (ki kj : Int) (h0 : Heap) (n0 : Nat) (Z0 : n0 ≤ h0.size) (hS : own_Sep n0 [a0, av, al, ah, au, qa, qb, qc, qd]) (hSt : own_S Z h0 a0 av al ah au qa qb qc qd ii jj false) (hii : ii < 8) (hjj : jj < 8) (hne : ¬ ii = jj) (ei : kk ii = ki) (ej : kk jj = kj) (i0 : 0 ≤ ki) (i8 : ki ≤ 8) (j0 : 0 ≤ kj) (j8 : kj ≤ 8) (pi : Own.own_D 3 ki (pr ii)) (pj : Own.own_D 3 kj (pr jj)) (hlt : jj < ii) :
    own_Met l mN15 prog_72_method_3_code 14 (some .int) ws ({ frames := 3, cells := 7, slots := 103, locals := 48 } : Room) #[.ref a0, (.int (own_n 2)), (.int (own_n 0)), (.int (own_n 3))] Z h0 (own_QF Z a0 av al ah au qa qb qc qd pr kk (own_num ki kj 0 1 0 0) h0 n0) := by
  have hn1 : ¬ own_n ii = own_n jj := own_nne (by omega) (by omega) hne
  have hn2 : ¬ own_n jj = own_n ii := fun q => hn1 q.symm
  obtain ⟨uq, c1, c2, c3, c4, hD, hU, hc⟩ := hSt
  exact own_weak (rmIteBP l Z av0 hw ws a0 av al ah au qa qb qc qd (own_vr ii jj) own_lw own_hg uq c1 c2 c3 c4 4 2 0 3 (own_n jj) 0 0 0 (own_n ii) h0 n0 Z0 hD hS hU (by decide) (by decide) (by decide) (by decide) (by decide) (show own_min (own_n ii) (own_min own_MX (own_n jj)) = own_n jj by rw [own_mnr hjj, own_mng hlt hii]) (by decide) (by decide) (by decide) (by rw [hc]; decide) (by decide) hn1 (by decide) (by decide) (by decide) ⟨fun q => absurd q (own_mxn8 hjj), fun _ => rfl⟩ ⟨fun _ => rfl, fun q => absurd rfl q⟩ ⟨fun q => absurd q (own_mxn8 hjj), fun _ => rfl⟩ ⟨fun _ => rfl, fun q => absurd rfl q⟩ (own_kpe _ _) (by decide) (by decide) (fun n h1 h2 => by
      rcases (show n = 2 ∨ n = 3 by omega) with rfl | rfl
      all_goals simp [own_vr, own_lw, own_hg, own_up, own_c0, own_c1, own_c2, own_c3, own_c4, own_c5, hn1, hn2]) rfl hn1 rfl rfl (own_mxn8 hii) (own_mxn8 hii) (by rw [hc]; decide) (show own_min (own_n ii) (own_min own_MX own_MX) = own_n ii by rw [own_mxx, own_mnl hii]) (fun n h1 h2 => by
      rcases (show n = 2 ∨ n = 3 by omega) with rfl | rfl
      all_goals simp [own_vr, own_lw, own_hg, own_up, own_c0, own_c1, own_c2, own_c3, own_c4, own_c5, hn1, hn2])) (fun v h L q => by
    obtain ⟨_, _, _, _, _, q1, q2, q3, q5⟩ := q
    exact ⟨5, (own_W ki kj (8 * (8 - ki)) (kj * (8 - ki) + (8 - kj) * 0) 0), _, _, _, _, _, _, _, _, 6, q1, q2, q3, by decide, q5, ((own_base3 (8 * (8 - ki)) (kj * (8 - ki) + (8 - kj) * 0) 0 hii hjj ei ej i0 i8 j0 j8 pi pj).step (vv := ii) (hN := 0) (lN := 1) (x := 0) (y := 8) (by decide) hii (by decide) (by decide) (by rw [ei]; exact pi) (by rw [ei]; exact i0) (by rw [ei]; exact i8) rfl rfl (by rw [ei]; show 8 * (8 - ki) = ki * 0 + (8 - ki) * 8; omega)).step (vv := jj) (hN := 4) (lN := 0) (x := (8 - ki)) (y := 0) (by decide) hjj (by decide) (by decide) (by rw [ej]; exact pj) (by rw [ej]; exact j0) (by rw [ej]; exact j8) rfl rfl (by rw [ej]; rfl), (by simp only [own_num, own_W]; have := own_expand ki kj; omega)⟩)
theorem own_F3_0 (l : Launch) (Z : State) (av0 : Array Value) (hw : ∀ d ∈ tables_1, d.before av0 Z = true) (ws : List Jvm.Cond) (a0 av al ah au qa qb qc qd : Addr) (ii jj : Nat) (pr : Nat → UInt64) (kk : Nat → Int) (ki kj : Int) (h0 : Heap) (n0 : Nat) (Z0 : n0 ≤ h0.size) (hS : own_Sep n0 [a0, av, al, ah, au, qa, qb, qc, qd]) (hSt : own_S Z h0 a0 av al ah au qa qb qc qd ii jj false) (hii : ii < 8) (hjj : jj < 8) (hne : ¬ ii = jj) (ei : kk ii = ki) (ej : kk jj = kj) (i0 : 0 ≤ ki) (i8 : ki ≤ 8) (j0 : 0 ≤ kj) (j8 : kj ≤ 8) (pi : Own.own_D 3 ki (pr ii)) (pj : Own.own_D 3 kj (pr jj)) (hlt : ii < jj) :
    own_Met l mN15 prog_72_method_3_code 14 (some .int) ws ({ frames := 3, cells := 7, slots := 103, locals := 48 } : Room) #[.ref a0, (.int (own_n 2)), (.int (own_n 0)), (.int (own_n 1))] Z h0 (own_QF Z a0 av al ah au qa qb qc qd pr kk (own_num ki kj 1 1 0 0) h0 n0) := by
  have hn1 : ¬ own_n ii = own_n jj := own_nne (by omega) (by omega) hne
  have hn2 : ¬ own_n jj = own_n ii := fun q => hn1 q.symm
  obtain ⟨uq, c1, c2, c3, c4, hD, hU, hc⟩ := hSt
  exact own_weak (rmIteB l Z av0 hw ws a0 av al ah au qa qb qc qd (own_vr ii jj) own_lw own_hg uq c1 c2 c3 c4 4 2 0 1 (own_n ii) h0 n0 Z0 hD hS hU (by decide) (by decide) (by decide) (by decide) (by decide) (show own_min (own_n ii) (own_min own_MX own_MX) = own_n ii by rw [own_mxx, own_mnl hii]) (by decide) (by decide) (by decide) (by rw [hc]; decide) rfl rfl rfl (own_mxn8 hii) (own_mxn8 hii) (fun n h1 h2 => by
      rcases (show n = 2 ∨ n = 3 by omega) with rfl | rfl
      all_goals simp [own_vr, own_lw, own_hg, own_up, own_c0, own_c1, own_c2, own_c3, own_c4, own_c5, hn1, hn2])) (fun v h L q => by
    obtain ⟨k, hk, q1, q2, q3, q4, q5⟩ := q
    exact ⟨4, (own_W ki kj (ki * 0 + (8 - ki) * 8) 0 0), _, _, _, _, _, _, _, _, 5, q1, q2, q3, by decide, q5, (own_base3 (ki * 0 + (8 - ki) * 8) 0 0 hii hjj ei ej i0 i8 j0 j8 pi pj).step (vv := ii) (hN := 0) (lN := 1) (x := 0) (y := 8) (by decide) hii (by decide) (by decide) (by rw [ei]; exact pi) (by rw [ei]; exact i0) (by rw [ei]; exact i8) rfl rfl (by rw [ei]; rfl), (by simp only [own_num, own_W]; have := own_expand ki kj; omega)⟩)
theorem own_F3_1 (l : Launch) (Z : State) (av0 : Array Value) (hw : ∀ d ∈ tables_1, d.before av0 Z = true) (ws : List Jvm.Cond) (a0 av al ah au qa qb qc qd : Addr) (ii jj : Nat) (pr : Nat → UInt64) (kk : Nat → Int) (ki kj : Int) (h0 : Heap) (n0 : Nat) (Z0 : n0 ≤ h0.size) (hS : own_Sep n0 [a0, av, al, ah, au, qa, qb, qc, qd]) (hSt : own_S Z h0 a0 av al ah au qa qb qc qd ii jj false) (hii : ii < 8) (hjj : jj < 8) (hne : ¬ ii = jj) (ei : kk ii = ki) (ej : kk jj = kj) (i0 : 0 ≤ ki) (i8 : ki ≤ 8) (j0 : 0 ≤ kj) (j8 : kj ≤ 8) (pi : Own.own_D 3 ki (pr ii)) (pj : Own.own_D 3 kj (pr jj)) (hlt : jj < ii) :
    own_Met l mN15 prog_72_method_3_code 14 (some .int) ws ({ frames := 3, cells := 7, slots := 103, locals := 48 } : Room) #[.ref a0, (.int (own_n 2)), (.int (own_n 0)), (.int (own_n 1))] Z h0 (own_QF Z a0 av al ah au qa qb qc qd pr kk (own_num ki kj 1 1 0 0) h0 n0) := by
  have hn1 : ¬ own_n ii = own_n jj := own_nne (by omega) (by omega) hne
  have hn2 : ¬ own_n jj = own_n ii := fun q => hn1 q.symm
  obtain ⟨uq, c1, c2, c3, c4, hD, hU, hc⟩ := hSt
  exact own_weak (rmIteB l Z av0 hw ws a0 av al ah au qa qb qc qd (own_vr ii jj) own_lw own_hg uq c1 c2 c3 c4 4 2 0 1 (own_n ii) h0 n0 Z0 hD hS hU (by decide) (by decide) (by decide) (by decide) (by decide) (show own_min (own_n ii) (own_min own_MX own_MX) = own_n ii by rw [own_mxx, own_mnl hii]) (by decide) (by decide) (by decide) (by rw [hc]; decide) rfl rfl rfl (own_mxn8 hii) (own_mxn8 hii) (fun n h1 h2 => by
      rcases (show n = 2 ∨ n = 3 by omega) with rfl | rfl
      all_goals simp [own_vr, own_lw, own_hg, own_up, own_c0, own_c1, own_c2, own_c3, own_c4, own_c5, hn1, hn2])) (fun v h L q => by
    obtain ⟨k, hk, q1, q2, q3, q4, q5⟩ := q
    exact ⟨4, (own_W ki kj (ki * 0 + (8 - ki) * 8) 0 0), _, _, _, _, _, _, _, _, 5, q1, q2, q3, by decide, q5, (own_base3 (ki * 0 + (8 - ki) * 8) 0 0 hii hjj ei ej i0 i8 j0 j8 pi pj).step (vv := ii) (hN := 0) (lN := 1) (x := 0) (y := 8) (by decide) hii (by decide) (by decide) (by rw [ei]; exact pi) (by rw [ei]; exact i0) (by rw [ei]; exact i8) rfl rfl (by rw [ei]; rfl), (by simp only [own_num, own_W]; have := own_expand ki kj; omega)⟩)
theorem own_F4_0 (l : Launch) (Z : State) (av0 : Array Value) (hw : ∀ d ∈ tables_1, d.before av0 Z = true) (ws : List Jvm.Cond) (a0 av al ah au qa qb qc qd : Addr) (ii jj : Nat) (pr : Nat → UInt64) (kk : Nat → Int) (ki kj : Int) (h0 : Heap) (n0 : Nat) (Z0 : n0 ≤ h0.size) (hS : own_Sep n0 [a0, av, al, ah, au, qa, qb, qc, qd]) (hSt : own_S Z h0 a0 av al ah au qa qb qc qd ii jj true) (hii : ii < 8) (hjj : jj < 8) (hne : ¬ ii = jj) (ei : kk ii = ki) (ej : kk jj = kj) (i0 : 0 ≤ ki) (i8 : ki ≤ 8) (j0 : 0 ≤ kj) (j8 : kj ≤ 8) (pi : Own.own_D 3 ki (pr ii)) (pj : Own.own_D 3 kj (pr jj)) (hlt : ii < jj) :
    own_Met l mN15 prog_72_method_3_code 14 (some .int) ws ({ frames := 3, cells := 7, slots := 103, locals := 48 } : Room) #[.ref a0, (.int (own_n 2)), (.int (own_n 4)), (.int (own_n 0))] Z h0 (own_QF Z a0 av al ah au qa qb qc qd pr kk (own_num ki kj 0 0 1 0) h0 n0) := by
  have hn1 : ¬ own_n ii = own_n jj := own_nne (by omega) (by omega) hne
  have hn2 : ¬ own_n jj = own_n ii := fun q => hn1 q.symm
  obtain ⟨uq, c1, c2, c3, c4, hD, hU, hc, g1, g2, g3, g4⟩ := hSt
  exact own_weak (rmIteB l Z av0 hw ws a0 av al ah au qa qb qc qd (own_up (own_vr ii jj) 4 (own_n jj)) (own_up own_lw 4 (own_n 1)) (own_up own_hg 4 (own_n 0)) uq c1 c2 c3 c4 5 2 4 0 (own_n ii) h0 n0 Z0 hD hS hU (by decide) (by decide) (by decide) (by decide) (by decide) (show own_min (own_n ii) (own_min (own_n jj) own_MX) = own_n ii by rw [own_mnl hjj, own_mnk hlt hjj]) (by decide) (by decide) (by decide) (by rcases hc _ with q | q <;> rw [q] <;> decide) rfl rfl rfl hn2 (own_mxn8 hii) (fun n h1 h2 => by
      rcases (show n = 2 ∨ n = 3 ∨ n = 4 by omega) with rfl | rfl | rfl
      all_goals simp [own_vr, own_lw, own_hg, own_up, own_c0, own_c1, own_c2, own_c3, own_c4, own_c5, hn1, hn2])) (fun v h L q => by
    obtain ⟨k, hk, q1, q2, q3, q4, q5⟩ := q
    exact ⟨5, (own_W ki kj (8 * (8 - kj)) (ki * (8 - kj) + (8 - ki) * 0) 0), _, _, _, _, _, _, _, _, 6, q1, q2, q3, by decide, q5, (own_base4 (ki * (8 - kj) + (8 - ki) * 0) 0 hii hjj ei ej i0 i8 j0 j8 pi pj).step (vv := ii) (hN := 4) (lN := 0) (x := (8 - kj)) (y := 0) (by decide) hii (by decide) (by decide) (by rw [ei]; exact pi) (by rw [ei]; exact i0) (by rw [ei]; exact i8) rfl rfl (by rw [ei]; rfl), (by simp only [own_num, own_W]; have := own_expand ki kj; omega)⟩)
theorem own_F4_1 (l : Launch) (Z : State) (av0 : Array Value) (hw : ∀ d ∈ tables_1, d.before av0 Z = true) (ws : List Jvm.Cond) (a0 av al ah au qa qb qc qd : Addr) (ii jj : Nat) (pr : Nat → UInt64) (kk : Nat → Int) (ki kj : Int) (h0 : Heap) (n0 : Nat) (Z0 : n0 ≤ h0.size) (hS : own_Sep n0 [a0, av, al, ah, au, qa, qb, qc, qd]) (hSt : own_S Z h0 a0 av al ah au qa qb qc qd ii jj true) (hii : ii < 8) (hjj : jj < 8) (hne : ¬ ii = jj) (ei : kk ii = ki) (ej : kk jj = kj) (i0 : 0 ≤ ki) (i8 : ki ≤ 8) (j0 : 0 ≤ kj) (j8 : kj ≤ 8) (pi : Own.own_D 3 ki (pr ii)) (pj : Own.own_D 3 kj (pr jj)) (hlt : jj < ii) :
    own_Met l mN15 prog_72_method_3_code 14 (some .int) ws ({ frames := 3, cells := 7, slots := 103, locals := 48 } : Room) #[.ref a0, (.int (own_n 2)), (.int (own_n 4)), (.int (own_n 0))] Z h0 (own_QF Z a0 av al ah au qa qb qc qd pr kk (own_num ki kj 0 0 1 0) h0 n0) := by
  have hn1 : ¬ own_n ii = own_n jj := own_nne (by omega) (by omega) hne
  have hn2 : ¬ own_n jj = own_n ii := fun q => hn1 q.symm
  obtain ⟨uq, c1, c2, c3, c4, hD, hU, hc, g1, g2, g3, g4⟩ := hSt
  exact own_weak (rmItePP l Z av0 hw ws a0 av al ah au qa qb qc qd (own_up (own_vr ii jj) 4 (own_n jj)) (own_up own_lw 4 (own_n 1)) (own_up own_hg 4 (own_n 0)) uq c1 c2 c3 c4 5 2 4 0 (own_n jj) 0 0 1 0 0 2 (own_n ii) h0 n0 Z0 hD hS hU (by decide) (by decide) (by decide) (by decide) (by decide) (show own_min (own_n ii) (own_min (own_n jj) own_MX) = own_n jj by rw [own_mnl hjj, own_mng hlt hii]) (by decide) (by decide) (by decide) (by rcases hc _ with q | q <;> rw [q] <;> decide) (by decide) hn1 (by decide) (by decide) (by decide) ⟨fun _ => rfl, fun q => absurd rfl q⟩ ⟨fun q => absurd q (own_mxn8 hjj), fun _ => rfl⟩ ⟨fun _ => rfl, fun q => absurd rfl q⟩ ⟨fun q => absurd q (own_mxn8 hjj), fun _ => rfl⟩ (own_kpe _ _) (own_kpf (by decide) (by decide)) (by decide) (by decide) (by decide) (fun n h1 h2 => by
      rcases (show n = 2 ∨ n = 3 ∨ n = 4 by omega) with rfl | rfl | rfl
      all_goals simp [own_vr, own_lw, own_hg, own_up, own_c0, own_c1, own_c2, own_c3, own_c4, own_c5, hn1, hn2])) (fun v h L q => by
    obtain ⟨_, _, _, _, _, q1, q2, q3, q5⟩ := q
    exact ⟨5, (own_W ki kj (8 * (8 - kj)) (kj * 0 + (8 - kj) * ki) 0), _, _, _, _, _, _, _, _, 6, q1, q2, q3, by decide, q5, (own_base4 (kj * 0 + (8 - kj) * ki) 0 hii hjj ei ej i0 i8 j0 j8 pi pj).step (vv := jj) (hN := 0) (lN := 2) (x := 0) (y := ki) (by decide) hjj (by decide) (by decide) (by rw [ej]; exact pj) (by rw [ej]; exact j0) (by rw [ej]; exact j8) rfl rfl (by rw [ej]; rfl), (by simp only [own_num, own_W]; have := own_expand ki kj; omega)⟩)
theorem own_F5_0 (l : Launch) (Z : State) (av0 : Array Value) (hw : ∀ d ∈ tables_1, d.before av0 Z = true) (ws : List Jvm.Cond) (a0 av al ah au qa qb qc qd : Addr) (ii jj : Nat) (pr : Nat → UInt64) (kk : Nat → Int) (ki kj : Int) (h0 : Heap) (n0 : Nat) (Z0 : n0 ≤ h0.size) (hS : own_Sep n0 [a0, av, al, ah, au, qa, qb, qc, qd]) (hSt : own_S Z h0 a0 av al ah au qa qb qc qd ii jj true) (hii : ii < 8) (hjj : jj < 8) (hne : ¬ ii = jj) (ei : kk ii = ki) (ej : kk jj = kj) (i0 : 0 ≤ ki) (i8 : ki ≤ 8) (j0 : 0 ≤ kj) (j8 : kj ≤ 8) (pi : Own.own_D 3 ki (pr ii)) (pj : Own.own_D 3 kj (pr jj)) (hlt : ii < jj) :
    own_Met l mN15 prog_72_method_3_code 14 (some .int) ws ({ frames := 3, cells := 7, slots := 103, locals := 48 } : Room) #[.ref a0, (.int (own_n 2)), (.int (own_n 4)), (.int (own_n 4))] Z h0 (own_QF Z a0 av al ah au qa qb qc qd pr kk (own_num ki kj 1 0 1 0) h0 n0) := by
  have hn1 : ¬ own_n ii = own_n jj := own_nne (by omega) (by omega) hne
  have hn2 : ¬ own_n jj = own_n ii := fun q => hn1 q.symm
  obtain ⟨uq, c1, c2, c3, c4, hD, hU, hc, g1, g2, g3, g4⟩ := hSt
  exact own_weak (rmIteP l Z av0 hw ws a0 (own_n 2) (own_n 4) (own_n 4) (own_n 4) h0 n0 Z0 hD.E (own_kpe _ _) (by decide)) (fun v h L q => ⟨4, (own_W ki kj (8 * (8 - kj)) 0 0), _, _, _, _, _, _, _, _, 5, q.1, q.2.1, q.2.2 ▸ Keep.refl _ _, by decide, q.2.2.symm ▸ hD, (own_base4 0 0 hii hjj ei ej i0 i8 j0 j8 pi pj).le (by decide), (by simp only [own_num, own_W]; have := own_expand ki kj; omega)⟩)
theorem own_F5_1 (l : Launch) (Z : State) (av0 : Array Value) (hw : ∀ d ∈ tables_1, d.before av0 Z = true) (ws : List Jvm.Cond) (a0 av al ah au qa qb qc qd : Addr) (ii jj : Nat) (pr : Nat → UInt64) (kk : Nat → Int) (ki kj : Int) (h0 : Heap) (n0 : Nat) (Z0 : n0 ≤ h0.size) (hS : own_Sep n0 [a0, av, al, ah, au, qa, qb, qc, qd]) (hSt : own_S Z h0 a0 av al ah au qa qb qc qd ii jj true) (hii : ii < 8) (hjj : jj < 8) (hne : ¬ ii = jj) (ei : kk ii = ki) (ej : kk jj = kj) (i0 : 0 ≤ ki) (i8 : ki ≤ 8) (j0 : 0 ≤ kj) (j8 : kj ≤ 8) (pi : Own.own_D 3 ki (pr ii)) (pj : Own.own_D 3 kj (pr jj)) (hlt : jj < ii) :
    own_Met l mN15 prog_72_method_3_code 14 (some .int) ws ({ frames := 3, cells := 7, slots := 103, locals := 48 } : Room) #[.ref a0, (.int (own_n 2)), (.int (own_n 4)), (.int (own_n 4))] Z h0 (own_QF Z a0 av al ah au qa qb qc qd pr kk (own_num ki kj 1 0 1 0) h0 n0) := by
  have hn1 : ¬ own_n ii = own_n jj := own_nne (by omega) (by omega) hne
  have hn2 : ¬ own_n jj = own_n ii := fun q => hn1 q.symm
  obtain ⟨uq, c1, c2, c3, c4, hD, hU, hc, g1, g2, g3, g4⟩ := hSt
  exact own_weak (rmIteP l Z av0 hw ws a0 (own_n 2) (own_n 4) (own_n 4) (own_n 4) h0 n0 Z0 hD.E (own_kpe _ _) (by decide)) (fun v h L q => ⟨4, (own_W ki kj (8 * (8 - kj)) 0 0), _, _, _, _, _, _, _, _, 5, q.1, q.2.1, q.2.2 ▸ Keep.refl _ _, by decide, q.2.2.symm ▸ hD, (own_base4 0 0 hii hjj ei ej i0 i8 j0 j8 pi pj).le (by decide), (by simp only [own_num, own_W]; have := own_expand ki kj; omega)⟩)
theorem own_F6_0 (l : Launch) (Z : State) (av0 : Array Value) (hw : ∀ d ∈ tables_1, d.before av0 Z = true) (ws : List Jvm.Cond) (a0 av al ah au qa qb qc qd : Addr) (ii jj : Nat) (pr : Nat → UInt64) (kk : Nat → Int) (ki kj : Int) (h0 : Heap) (n0 : Nat) (Z0 : n0 ≤ h0.size) (hS : own_Sep n0 [a0, av, al, ah, au, qa, qb, qc, qd]) (hSt : own_S Z h0 a0 av al ah au qa qb qc qd ii jj true) (hii : ii < 8) (hjj : jj < 8) (hne : ¬ ii = jj) (ei : kk ii = ki) (ej : kk jj = kj) (i0 : 0 ≤ ki) (i8 : ki ≤ 8) (j0 : 0 ≤ kj) (j8 : kj ≤ 8) (pi : Own.own_D 3 ki (pr ii)) (pj : Own.own_D 3 kj (pr jj)) (hlt : ii < jj) :
    own_Met l mN15 prog_72_method_3_code 14 (some .int) ws ({ frames := 3, cells := 7, slots := 103, locals := 48 } : Room) #[.ref a0, (.int (own_n 2)), (.int (own_n 4)), (.int (own_n 3))] Z h0 (own_QF Z a0 av al ah au qa qb qc qd pr kk (own_num ki kj 0 1 1 0) h0 n0) := by
  have hn1 : ¬ own_n ii = own_n jj := own_nne (by omega) (by omega) hne
  have hn2 : ¬ own_n jj = own_n ii := fun q => hn1 q.symm
  obtain ⟨uq, c1, c2, c3, c4, hD, hU, hc, g1, g2, g3, g4⟩ := hSt
  exact own_weak (rmIteB l Z av0 hw ws a0 av al ah au qa qb qc qd (own_up (own_vr ii jj) 4 (own_n jj)) (own_up own_lw 4 (own_n 1)) (own_up own_hg 4 (own_n 0)) uq c1 c2 c3 c4 5 2 4 3 (own_n ii) h0 n0 Z0 hD hS hU (by decide) (by decide) (by decide) (by decide) (by decide) (show own_min (own_n ii) (own_min (own_n jj) (own_n jj)) = own_n ii by rw [own_mns, own_mnk hlt hjj]) (by decide) (by decide) (by decide) (by rcases hc _ with q | q <;> rw [q] <;> decide) rfl rfl rfl hn2 hn2 (fun n h1 h2 => by
      rcases (show n = 2 ∨ n = 3 ∨ n = 4 by omega) with rfl | rfl | rfl
      all_goals simp [own_vr, own_lw, own_hg, own_up, own_c0, own_c1, own_c2, own_c3, own_c4, own_c5, hn1, hn2])) (fun v h L q => by
    obtain ⟨k, hk, q1, q2, q3, q4, q5⟩ := q
    exact ⟨5, (own_W ki kj (8 * (8 - kj)) (ki * (8 - kj) + (8 - ki) * kj) 0), _, _, _, _, _, _, _, _, 6, q1, q2, q3, by decide, q5, (own_base4 (ki * (8 - kj) + (8 - ki) * kj) 0 hii hjj ei ej i0 i8 j0 j8 pi pj).step (vv := ii) (hN := 4) (lN := 3) (x := (8 - kj)) (y := kj) (by decide) hii (by decide) (by decide) (by rw [ei]; exact pi) (by rw [ei]; exact i0) (by rw [ei]; exact i8) rfl rfl (by rw [ei]; rfl), (by simp only [own_num, own_W]; have := own_expand ki kj; omega)⟩)
theorem own_F6_1 (l : Launch) (Z : State) (av0 : Array Value) (hw : ∀ d ∈ tables_1, d.before av0 Z = true) (ws : List Jvm.Cond) (a0 av al ah au qa qb qc qd : Addr) (ii jj : Nat) (pr : Nat → UInt64) (kk : Nat → Int) (ki kj : Int) (h0 : Heap) (n0 : Nat) (Z0 : n0 ≤ h0.size) (hS : own_Sep n0 [a0, av, al, ah, au, qa, qb, qc, qd]) (hSt : own_S Z h0 a0 av al ah au qa qb qc qd ii jj true) (hii : ii < 8) (hjj : jj < 8) (hne : ¬ ii = jj) (ei : kk ii = ki) (ej : kk jj = kj) (i0 : 0 ≤ ki) (i8 : ki ≤ 8) (j0 : 0 ≤ kj) (j8 : kj ≤ 8) (pi : Own.own_D 3 ki (pr ii)) (pj : Own.own_D 3 kj (pr jj)) (hlt : jj < ii) :
    own_Met l mN15 prog_72_method_3_code 14 (some .int) ws ({ frames := 3, cells := 7, slots := 103, locals := 48 } : Room) #[.ref a0, (.int (own_n 2)), (.int (own_n 4)), (.int (own_n 3))] Z h0 (own_QF Z a0 av al ah au qa qb qc qd pr kk (own_num ki kj 0 1 1 0) h0 n0) := by
  have hn1 : ¬ own_n ii = own_n jj := own_nne (by omega) (by omega) hne
  have hn2 : ¬ own_n jj = own_n ii := fun q => hn1 q.symm
  obtain ⟨uq, c1, c2, c3, c4, hD, hU, hc, g1, g2, g3, g4⟩ := hSt
  exact own_weak (rmIteBP l Z av0 hw ws a0 av al ah au qa qb qc qd (own_up (own_vr ii jj) 4 (own_n jj)) (own_up own_lw 4 (own_n 1)) (own_up own_hg 4 (own_n 0)) uq c1 c2 c3 c4 5 2 4 3 (own_n jj) 1 0 2 (own_n ii) h0 n0 Z0 hD hS hU (by decide) (by decide) (by decide) (by decide) (by decide) (show own_min (own_n ii) (own_min (own_n jj) (own_n jj)) = own_n jj by rw [own_mns, own_mng hlt hii]) (by decide) (by decide) (by decide) (by rcases hc _ with q | q <;> rw [q] <;> decide) (by decide) hn1 (by decide) (by decide) (by decide) ⟨fun _ => rfl, fun q => absurd rfl q⟩ ⟨fun _ => rfl, fun q => absurd rfl q⟩ ⟨fun _ => rfl, fun q => absurd rfl q⟩ ⟨fun _ => rfl, fun q => absurd rfl q⟩ (own_kpf (by decide) (by decide)) (by decide) (by decide) (fun n h1 h2 => by
      rcases (show n = 2 ∨ n = 3 ∨ n = 4 by omega) with rfl | rfl | rfl
      all_goals simp [own_vr, own_lw, own_hg, own_up, own_c0, own_c1, own_c2, own_c3, own_c4, own_c5, hn1, hn2]) rfl hn1 rfl rfl (own_mxn8 hii) (own_mxn8 hii) (by rcases hc _ with q | q <;> rw [q] <;> decide) (show own_min (own_n ii) (own_min own_MX own_MX) = own_n ii by rw [own_mxx, own_mnl hii]) (fun n h1 h2 => by
      rcases (show n = 2 ∨ n = 3 ∨ n = 4 by omega) with rfl | rfl | rfl
      all_goals simp [own_vr, own_lw, own_hg, own_up, own_c0, own_c1, own_c2, own_c3, own_c4, own_c5, hn1, hn2])) (fun v h L q => by
    obtain ⟨_, _, _, _, _, q1, q2, q3, q5⟩ := q
    exact ⟨6, (own_W ki kj (8 * (8 - kj)) (8 * (8 - ki)) (kj * (8 - ki) + (8 - kj) * ki)), _, _, _, _, _, _, _, _, 7, q1, q2, q3, by decide, q5, ((own_base4 (8 * (8 - ki)) (kj * (8 - ki) + (8 - kj) * ki) hii hjj ei ej i0 i8 j0 j8 pi pj).step (vv := ii) (hN := 0) (lN := 1) (x := 0) (y := 8) (by decide) hii (by decide) (by decide) (by rw [ei]; exact pi) (by rw [ei]; exact i0) (by rw [ei]; exact i8) rfl rfl (by rw [ei]; show 8 * (8 - ki) = ki * 0 + (8 - ki) * 8; omega)).step (vv := jj) (hN := 5) (lN := 2) (x := (8 - ki)) (y := ki) (by decide) hjj (by decide) (by decide) (by rw [ej]; exact pj) (by rw [ej]; exact j0) (by rw [ej]; exact j8) rfl rfl (by rw [ej]; rfl), (by simp only [own_num, own_W]; have := own_expand ki kj; omega)⟩)
theorem own_F7_0 (l : Launch) (Z : State) (av0 : Array Value) (hw : ∀ d ∈ tables_1, d.before av0 Z = true) (ws : List Jvm.Cond) (a0 av al ah au qa qb qc qd : Addr) (ii jj : Nat) (pr : Nat → UInt64) (kk : Nat → Int) (ki kj : Int) (h0 : Heap) (n0 : Nat) (Z0 : n0 ≤ h0.size) (hS : own_Sep n0 [a0, av, al, ah, au, qa, qb, qc, qd]) (hSt : own_S Z h0 a0 av al ah au qa qb qc qd ii jj true) (hii : ii < 8) (hjj : jj < 8) (hne : ¬ ii = jj) (ei : kk ii = ki) (ej : kk jj = kj) (i0 : 0 ≤ ki) (i8 : ki ≤ 8) (j0 : 0 ≤ kj) (j8 : kj ≤ 8) (pi : Own.own_D 3 ki (pr ii)) (pj : Own.own_D 3 kj (pr jj)) (hlt : ii < jj) :
    own_Met l mN15 prog_72_method_3_code 14 (some .int) ws ({ frames := 3, cells := 7, slots := 103, locals := 48 } : Room) #[.ref a0, (.int (own_n 2)), (.int (own_n 4)), (.int (own_n 1))] Z h0 (own_QF Z a0 av al ah au qa qb qc qd pr kk (own_num ki kj 1 1 1 0) h0 n0) := by
  have hn1 : ¬ own_n ii = own_n jj := own_nne (by omega) (by omega) hne
  have hn2 : ¬ own_n jj = own_n ii := fun q => hn1 q.symm
  obtain ⟨uq, c1, c2, c3, c4, hD, hU, hc, g1, g2, g3, g4⟩ := hSt
  exact own_weak (rmIteB l Z av0 hw ws a0 av al ah au qa qb qc qd (own_up (own_vr ii jj) 4 (own_n jj)) (own_up own_lw 4 (own_n 1)) (own_up own_hg 4 (own_n 0)) uq c1 c2 c3 c4 5 2 4 1 (own_n ii) h0 n0 Z0 hD hS hU (by decide) (by decide) (by decide) (by decide) (by decide) (show own_min (own_n ii) (own_min (own_n jj) own_MX) = own_n ii by rw [own_mnl hjj, own_mnk hlt hjj]) (by decide) (by decide) (by decide) (by rcases hc _ with q | q <;> rw [q] <;> decide) rfl rfl rfl hn2 (own_mxn8 hii) (fun n h1 h2 => by
      rcases (show n = 2 ∨ n = 3 ∨ n = 4 by omega) with rfl | rfl | rfl
      all_goals simp [own_vr, own_lw, own_hg, own_up, own_c0, own_c1, own_c2, own_c3, own_c4, own_c5, hn1, hn2])) (fun v h L q => by
    obtain ⟨k, hk, q1, q2, q3, q4, q5⟩ := q
    exact ⟨5, (own_W ki kj (8 * (8 - kj)) (ki * (8 - kj) + (8 - ki) * 8) 0), _, _, _, _, _, _, _, _, 6, q1, q2, q3, by decide, q5, (own_base4 (ki * (8 - kj) + (8 - ki) * 8) 0 hii hjj ei ej i0 i8 j0 j8 pi pj).step (vv := ii) (hN := 4) (lN := 1) (x := (8 - kj)) (y := 8) (by decide) hii (by decide) (by decide) (by rw [ei]; exact pi) (by rw [ei]; exact i0) (by rw [ei]; exact i8) rfl rfl (by rw [ei]; rfl), (by simp only [own_num, own_W]; have := own_expand ki kj; omega)⟩)
theorem own_F7_1 (l : Launch) (Z : State) (av0 : Array Value) (hw : ∀ d ∈ tables_1, d.before av0 Z = true) (ws : List Jvm.Cond) (a0 av al ah au qa qb qc qd : Addr) (ii jj : Nat) (pr : Nat → UInt64) (kk : Nat → Int) (ki kj : Int) (h0 : Heap) (n0 : Nat) (Z0 : n0 ≤ h0.size) (hS : own_Sep n0 [a0, av, al, ah, au, qa, qb, qc, qd]) (hSt : own_S Z h0 a0 av al ah au qa qb qc qd ii jj true) (hii : ii < 8) (hjj : jj < 8) (hne : ¬ ii = jj) (ei : kk ii = ki) (ej : kk jj = kj) (i0 : 0 ≤ ki) (i8 : ki ≤ 8) (j0 : 0 ≤ kj) (j8 : kj ≤ 8) (pi : Own.own_D 3 ki (pr ii)) (pj : Own.own_D 3 kj (pr jj)) (hlt : jj < ii) :
    own_Met l mN15 prog_72_method_3_code 14 (some .int) ws ({ frames := 3, cells := 7, slots := 103, locals := 48 } : Room) #[.ref a0, (.int (own_n 2)), (.int (own_n 4)), (.int (own_n 1))] Z h0 (own_QF Z a0 av al ah au qa qb qc qd pr kk (own_num ki kj 1 1 1 0) h0 n0) := by
  have hn1 : ¬ own_n ii = own_n jj := own_nne (by omega) (by omega) hne
  have hn2 : ¬ own_n jj = own_n ii := fun q => hn1 q.symm
  obtain ⟨uq, c1, c2, c3, c4, hD, hU, hc, g1, g2, g3, g4⟩ := hSt
  exact own_weak (rmIteBP l Z av0 hw ws a0 av al ah au qa qb qc qd (own_up (own_vr ii jj) 4 (own_n jj)) (own_up own_lw 4 (own_n 1)) (own_up own_hg 4 (own_n 0)) uq c1 c2 c3 c4 5 2 4 1 (own_n jj) 1 1 1 (own_n ii) h0 n0 Z0 hD hS hU (by decide) (by decide) (by decide) (by decide) (by decide) (show own_min (own_n ii) (own_min (own_n jj) own_MX) = own_n jj by rw [own_mnl hjj, own_mng hlt hii]) (by decide) (by decide) (by decide) (by rcases hc _ with q | q <;> rw [q] <;> decide) (by decide) hn1 (by decide) (by decide) (by decide) ⟨fun _ => rfl, fun q => absurd rfl q⟩ ⟨fun q => absurd q (own_mxn8 hjj), fun _ => rfl⟩ ⟨fun _ => rfl, fun q => absurd rfl q⟩ ⟨fun q => absurd q (own_mxn8 hjj), fun _ => rfl⟩ (own_kpe _ _) (by decide) (by decide) (fun n h1 h2 => by
      rcases (show n = 2 ∨ n = 3 ∨ n = 4 by omega) with rfl | rfl | rfl
      all_goals simp [own_vr, own_lw, own_hg, own_up, own_c0, own_c1, own_c2, own_c3, own_c4, own_c5, hn1, hn2]) rfl hn1 rfl rfl (own_mxn8 hii) (own_mxn8 hii) (by rcases hc _ with q | q <;> rw [q] <;> decide) (show own_min (own_n ii) (own_min own_MX own_MX) = own_n ii by rw [own_mxx, own_mnl hii]) (fun n h1 h2 => by
      rcases (show n = 2 ∨ n = 3 ∨ n = 4 by omega) with rfl | rfl | rfl
      all_goals simp [own_vr, own_lw, own_hg, own_up, own_c0, own_c1, own_c2, own_c3, own_c4, own_c5, hn1, hn2])) (fun v h L q => by
    obtain ⟨_, _, _, _, _, q1, q2, q3, q5⟩ := q
    exact ⟨6, (own_W ki kj (8 * (8 - kj)) (8 * (8 - ki)) (kj * (8 - ki) + (8 - kj) * 8)), _, _, _, _, _, _, _, _, 7, q1, q2, q3, by decide, q5, ((own_base4 (8 * (8 - ki)) (kj * (8 - ki) + (8 - kj) * 8) hii hjj ei ej i0 i8 j0 j8 pi pj).step (vv := ii) (hN := 0) (lN := 1) (x := 0) (y := 8) (by decide) hii (by decide) (by decide) (by rw [ei]; exact pi) (by rw [ei]; exact i0) (by rw [ei]; exact i8) rfl rfl (by rw [ei]; show 8 * (8 - ki) = ki * 0 + (8 - ki) * 8; omega)).step (vv := jj) (hN := 5) (lN := 1) (x := (8 - ki)) (y := 8) (by decide) hjj (by decide) (by decide) (by rw [ej]; exact pj) (by rw [ej]; exact j0) (by rw [ej]; exact j8) rfl rfl (by rw [ej]; rfl), (by simp only [own_num, own_W]; have := own_expand ki kj; omega)⟩)
theorem own_F8_0 (l : Launch) (Z : State) (av0 : Array Value) (hw : ∀ d ∈ tables_1, d.before av0 Z = true) (ws : List Jvm.Cond) (a0 av al ah au qa qb qc qd : Addr) (ii jj : Nat) (pr : Nat → UInt64) (kk : Nat → Int) (ki kj : Int) (h0 : Heap) (n0 : Nat) (Z0 : n0 ≤ h0.size) (hS : own_Sep n0 [a0, av, al, ah, au, qa, qb, qc, qd]) (hSt : own_S Z h0 a0 av al ah au qa qb qc qd ii jj false) (hii : ii < 8) (hjj : jj < 8) (hne : ¬ ii = jj) (ei : kk ii = ki) (ej : kk jj = kj) (i0 : 0 ≤ ki) (i8 : ki ≤ 8) (j0 : 0 ≤ kj) (j8 : kj ≤ 8) (pi : Own.own_D 3 ki (pr ii)) (pj : Own.own_D 3 kj (pr jj)) (hlt : ii < jj) :
    own_Met l mN15 prog_72_method_3_code 14 (some .int) ws ({ frames := 3, cells := 7, slots := 103, locals := 48 } : Room) #[.ref a0, (.int (own_n 2)), (.int (own_n 3)), (.int (own_n 0))] Z h0 (own_QF Z a0 av al ah au qa qb qc qd pr kk (own_num ki kj 0 0 0 1) h0 n0) := by
  have hn1 : ¬ own_n ii = own_n jj := own_nne (by omega) (by omega) hne
  have hn2 : ¬ own_n jj = own_n ii := fun q => hn1 q.symm
  obtain ⟨uq, c1, c2, c3, c4, hD, hU, hc⟩ := hSt
  exact own_weak (rmIteB l Z av0 hw ws a0 av al ah au qa qb qc qd (own_vr ii jj) own_lw own_hg uq c1 c2 c3 c4 4 2 3 0 (own_n ii) h0 n0 Z0 hD hS hU (by decide) (by decide) (by decide) (by decide) (by decide) (show own_min (own_n ii) (own_min (own_n jj) own_MX) = own_n ii by rw [own_mnl hjj, own_mnk hlt hjj]) (by decide) (by decide) (by decide) (by rw [hc]; decide) rfl rfl rfl hn2 (own_mxn8 hii) (fun n h1 h2 => by
      rcases (show n = 2 ∨ n = 3 by omega) with rfl | rfl
      all_goals simp [own_vr, own_lw, own_hg, own_up, own_c0, own_c1, own_c2, own_c3, own_c4, own_c5, hn1, hn2])) (fun v h L q => by
    obtain ⟨k, hk, q1, q2, q3, q4, q5⟩ := q
    exact ⟨4, (own_W ki kj (ki * kj + (8 - ki) * 0) 0 0), _, _, _, _, _, _, _, _, 5, q1, q2, q3, by decide, q5, (own_base3 (ki * kj + (8 - ki) * 0) 0 0 hii hjj ei ej i0 i8 j0 j8 pi pj).step (vv := ii) (hN := 3) (lN := 0) (x := kj) (y := 0) (by decide) hii (by decide) (by decide) (by rw [ei]; exact pi) (by rw [ei]; exact i0) (by rw [ei]; exact i8) rfl rfl (by rw [ei]; rfl), (by simp only [own_num, own_W]; have := own_expand ki kj; omega)⟩)
theorem own_F8_1 (l : Launch) (Z : State) (av0 : Array Value) (hw : ∀ d ∈ tables_1, d.before av0 Z = true) (ws : List Jvm.Cond) (a0 av al ah au qa qb qc qd : Addr) (ii jj : Nat) (pr : Nat → UInt64) (kk : Nat → Int) (ki kj : Int) (h0 : Heap) (n0 : Nat) (Z0 : n0 ≤ h0.size) (hS : own_Sep n0 [a0, av, al, ah, au, qa, qb, qc, qd]) (hSt : own_S Z h0 a0 av al ah au qa qb qc qd ii jj false) (hii : ii < 8) (hjj : jj < 8) (hne : ¬ ii = jj) (ei : kk ii = ki) (ej : kk jj = kj) (i0 : 0 ≤ ki) (i8 : ki ≤ 8) (j0 : 0 ≤ kj) (j8 : kj ≤ 8) (pi : Own.own_D 3 ki (pr ii)) (pj : Own.own_D 3 kj (pr jj)) (hlt : jj < ii) :
    own_Met l mN15 prog_72_method_3_code 14 (some .int) ws ({ frames := 3, cells := 7, slots := 103, locals := 48 } : Room) #[.ref a0, (.int (own_n 2)), (.int (own_n 3)), (.int (own_n 0))] Z h0 (own_QF Z a0 av al ah au qa qb qc qd pr kk (own_num ki kj 0 0 0 1) h0 n0) := by
  have hn1 : ¬ own_n ii = own_n jj := own_nne (by omega) (by omega) hne
  have hn2 : ¬ own_n jj = own_n ii := fun q => hn1 q.symm
  obtain ⟨uq, c1, c2, c3, c4, hD, hU, hc⟩ := hSt
  exact own_weak (rmItePP l Z av0 hw ws a0 av al ah au qa qb qc qd (own_vr ii jj) own_lw own_hg uq c1 c2 c3 c4 4 2 3 0 (own_n jj) 1 0 0 0 2 0 (own_n ii) h0 n0 Z0 hD hS hU (by decide) (by decide) (by decide) (by decide) (by decide) (show own_min (own_n ii) (own_min (own_n jj) own_MX) = own_n jj by rw [own_mnl hjj, own_mng hlt hii]) (by decide) (by decide) (by decide) (by rw [hc]; decide) (by decide) hn1 (by decide) (by decide) (by decide) ⟨fun _ => rfl, fun q => absurd rfl q⟩ ⟨fun q => absurd q (own_mxn8 hjj), fun _ => rfl⟩ ⟨fun _ => rfl, fun q => absurd rfl q⟩ ⟨fun q => absurd q (own_mxn8 hjj), fun _ => rfl⟩ (own_kpf (by decide) (by decide)) (own_kpe _ _) (by decide) (by decide) (by decide) (fun n h1 h2 => by
      rcases (show n = 2 ∨ n = 3 by omega) with rfl | rfl
      all_goals simp [own_vr, own_lw, own_hg, own_up, own_c0, own_c1, own_c2, own_c3, own_c4, own_c5, hn1, hn2])) (fun v h L q => by
    obtain ⟨_, _, _, _, _, q1, q2, q3, q5⟩ := q
    exact ⟨4, (own_W ki kj (kj * ki + (8 - kj) * 0) 0 0), _, _, _, _, _, _, _, _, 5, q1, q2, q3, by decide, q5, (own_base3 (kj * ki + (8 - kj) * 0) 0 0 hii hjj ei ej i0 i8 j0 j8 pi pj).step (vv := jj) (hN := 2) (lN := 0) (x := ki) (y := 0) (by decide) hjj (by decide) (by decide) (by rw [ej]; exact pj) (by rw [ej]; exact j0) (by rw [ej]; exact j8) rfl rfl (by rw [ej]; rfl), (by simp only [own_num, own_W]; have := own_expand ki kj; omega)⟩)
theorem own_F9_0 (l : Launch) (Z : State) (av0 : Array Value) (hw : ∀ d ∈ tables_1, d.before av0 Z = true) (ws : List Jvm.Cond) (a0 av al ah au qa qb qc qd : Addr) (ii jj : Nat) (pr : Nat → UInt64) (kk : Nat → Int) (ki kj : Int) (h0 : Heap) (n0 : Nat) (Z0 : n0 ≤ h0.size) (hS : own_Sep n0 [a0, av, al, ah, au, qa, qb, qc, qd]) (hSt : own_S Z h0 a0 av al ah au qa qb qc qd ii jj true) (hii : ii < 8) (hjj : jj < 8) (hne : ¬ ii = jj) (ei : kk ii = ki) (ej : kk jj = kj) (i0 : 0 ≤ ki) (i8 : ki ≤ 8) (j0 : 0 ≤ kj) (j8 : kj ≤ 8) (pi : Own.own_D 3 ki (pr ii)) (pj : Own.own_D 3 kj (pr jj)) (hlt : ii < jj) :
    own_Met l mN15 prog_72_method_3_code 14 (some .int) ws ({ frames := 3, cells := 7, slots := 103, locals := 48 } : Room) #[.ref a0, (.int (own_n 2)), (.int (own_n 3)), (.int (own_n 4))] Z h0 (own_QF Z a0 av al ah au qa qb qc qd pr kk (own_num ki kj 1 0 0 1) h0 n0) := by
  have hn1 : ¬ own_n ii = own_n jj := own_nne (by omega) (by omega) hne
  have hn2 : ¬ own_n jj = own_n ii := fun q => hn1 q.symm
  obtain ⟨uq, c1, c2, c3, c4, hD, hU, hc, g1, g2, g3, g4⟩ := hSt
  exact own_weak (rmIteB l Z av0 hw ws a0 av al ah au qa qb qc qd (own_up (own_vr ii jj) 4 (own_n jj)) (own_up own_lw 4 (own_n 1)) (own_up own_hg 4 (own_n 0)) uq c1 c2 c3 c4 5 2 3 4 (own_n ii) h0 n0 Z0 hD hS hU (by decide) (by decide) (by decide) (by decide) (by decide) (show own_min (own_n ii) (own_min (own_n jj) (own_n jj)) = own_n ii by rw [own_mns, own_mnk hlt hjj]) (by decide) (by decide) (by decide) (by rcases hc _ with q | q <;> rw [q] <;> decide) rfl rfl rfl hn2 hn2 (fun n h1 h2 => by
      rcases (show n = 2 ∨ n = 3 ∨ n = 4 by omega) with rfl | rfl | rfl
      all_goals simp [own_vr, own_lw, own_hg, own_up, own_c0, own_c1, own_c2, own_c3, own_c4, own_c5, hn1, hn2])) (fun v h L q => by
    obtain ⟨k, hk, q1, q2, q3, q4, q5⟩ := q
    exact ⟨5, (own_W ki kj (8 * (8 - kj)) (ki * kj + (8 - ki) * (8 - kj)) 0), _, _, _, _, _, _, _, _, 6, q1, q2, q3, by decide, q5, (own_base4 (ki * kj + (8 - ki) * (8 - kj)) 0 hii hjj ei ej i0 i8 j0 j8 pi pj).step (vv := ii) (hN := 3) (lN := 4) (x := kj) (y := (8 - kj)) (by decide) hii (by decide) (by decide) (by rw [ei]; exact pi) (by rw [ei]; exact i0) (by rw [ei]; exact i8) rfl rfl (by rw [ei]; rfl), (by simp only [own_num, own_W]; have := own_expand ki kj; omega)⟩)
theorem own_F9_1 (l : Launch) (Z : State) (av0 : Array Value) (hw : ∀ d ∈ tables_1, d.before av0 Z = true) (ws : List Jvm.Cond) (a0 av al ah au qa qb qc qd : Addr) (ii jj : Nat) (pr : Nat → UInt64) (kk : Nat → Int) (ki kj : Int) (h0 : Heap) (n0 : Nat) (Z0 : n0 ≤ h0.size) (hS : own_Sep n0 [a0, av, al, ah, au, qa, qb, qc, qd]) (hSt : own_S Z h0 a0 av al ah au qa qb qc qd ii jj true) (hii : ii < 8) (hjj : jj < 8) (hne : ¬ ii = jj) (ei : kk ii = ki) (ej : kk jj = kj) (i0 : 0 ≤ ki) (i8 : ki ≤ 8) (j0 : 0 ≤ kj) (j8 : kj ≤ 8) (pi : Own.own_D 3 ki (pr ii)) (pj : Own.own_D 3 kj (pr jj)) (hlt : jj < ii) :
    own_Met l mN15 prog_72_method_3_code 14 (some .int) ws ({ frames := 3, cells := 7, slots := 103, locals := 48 } : Room) #[.ref a0, (.int (own_n 2)), (.int (own_n 3)), (.int (own_n 4))] Z h0 (own_QF Z a0 av al ah au qa qb qc qd pr kk (own_num ki kj 1 0 0 1) h0 n0) := by
  have hn1 : ¬ own_n ii = own_n jj := own_nne (by omega) (by omega) hne
  have hn2 : ¬ own_n jj = own_n ii := fun q => hn1 q.symm
  obtain ⟨uq, c1, c2, c3, c4, hD, hU, hc, g1, g2, g3, g4⟩ := hSt
  exact own_weak (rmItePB l Z av0 hw ws a0 av al ah au qa qb qc qd (own_up (own_vr ii jj) 4 (own_n jj)) (own_up own_lw 4 (own_n 1)) (own_up own_hg 4 (own_n 0)) uq c1 c2 c3 c4 5 2 3 4 (own_n jj) 1 0 2 (own_n ii) h0 n0 Z0 hD hS hU (by decide) (by decide) (by decide) (by decide) (by decide) (show own_min (own_n ii) (own_min (own_n jj) (own_n jj)) = own_n jj by rw [own_mns, own_mng hlt hii]) (by decide) (by decide) (by decide) (by rcases hc _ with q | q <;> rw [q] <;> decide) (by decide) hn1 (by decide) (by decide) (by decide) ⟨fun _ => rfl, fun q => absurd rfl q⟩ ⟨fun _ => rfl, fun q => absurd rfl q⟩ ⟨fun _ => rfl, fun q => absurd rfl q⟩ ⟨fun _ => rfl, fun q => absurd rfl q⟩ (own_kpf (by decide) (by decide)) (by decide) (by decide) (fun n h1 h2 => by
      rcases (show n = 2 ∨ n = 3 ∨ n = 4 by omega) with rfl | rfl | rfl
      all_goals simp [own_vr, own_lw, own_hg, own_up, own_c0, own_c1, own_c2, own_c3, own_c4, own_c5, hn1, hn2]) rfl hn1 rfl rfl (own_mxn8 hii) (own_mxn8 hii) (by rcases hc _ with q | q <;> rw [q] <;> decide) (show own_min (own_n ii) (own_min own_MX own_MX) = own_n ii by rw [own_mxx, own_mnl hii]) (fun n h1 h2 => by
      rcases (show n = 2 ∨ n = 3 ∨ n = 4 by omega) with rfl | rfl | rfl
      all_goals simp [own_vr, own_lw, own_hg, own_up, own_c0, own_c1, own_c2, own_c3, own_c4, own_c5, hn1, hn2])) (fun v h L q => by
    obtain ⟨_, _, _, _, _, q1, q2, q3, q5⟩ := q
    exact ⟨6, (own_W ki kj (8 * (8 - kj)) (8 * (8 - ki)) (kj * ki + (8 - kj) * (8 - ki))), _, _, _, _, _, _, _, _, 7, q1, q2, q3, by decide, q5, ((own_base4 (8 * (8 - ki)) (kj * ki + (8 - kj) * (8 - ki)) hii hjj ei ej i0 i8 j0 j8 pi pj).step (vv := ii) (hN := 0) (lN := 1) (x := 0) (y := 8) (by decide) hii (by decide) (by decide) (by rw [ei]; exact pi) (by rw [ei]; exact i0) (by rw [ei]; exact i8) rfl rfl (by rw [ei]; show 8 * (8 - ki) = ki * 0 + (8 - ki) * 8; omega)).step (vv := jj) (hN := 2) (lN := 5) (x := ki) (y := (8 - ki)) (by decide) hjj (by decide) (by decide) (by rw [ej]; exact pj) (by rw [ej]; exact j0) (by rw [ej]; exact j8) rfl rfl (by rw [ej]; rfl), (by simp only [own_num, own_W]; have := own_expand ki kj; omega)⟩)
theorem own_F10_0 (l : Launch) (Z : State) (av0 : Array Value) (hw : ∀ d ∈ tables_1, d.before av0 Z = true) (ws : List Jvm.Cond) (a0 av al ah au qa qb qc qd : Addr) (ii jj : Nat) (pr : Nat → UInt64) (kk : Nat → Int) (ki kj : Int) (h0 : Heap) (n0 : Nat) (Z0 : n0 ≤ h0.size) (hS : own_Sep n0 [a0, av, al, ah, au, qa, qb, qc, qd]) (hSt : own_S Z h0 a0 av al ah au qa qb qc qd ii jj false) (hii : ii < 8) (hjj : jj < 8) (hne : ¬ ii = jj) (ei : kk ii = ki) (ej : kk jj = kj) (i0 : 0 ≤ ki) (i8 : ki ≤ 8) (j0 : 0 ≤ kj) (j8 : kj ≤ 8) (pi : Own.own_D 3 ki (pr ii)) (pj : Own.own_D 3 kj (pr jj)) (hlt : ii < jj) :
    own_Met l mN15 prog_72_method_3_code 14 (some .int) ws ({ frames := 3, cells := 7, slots := 103, locals := 48 } : Room) #[.ref a0, (.int (own_n 2)), (.int (own_n 3)), (.int (own_n 3))] Z h0 (own_QF Z a0 av al ah au qa qb qc qd pr kk (own_num ki kj 0 1 0 1) h0 n0) := by
  have hn1 : ¬ own_n ii = own_n jj := own_nne (by omega) (by omega) hne
  have hn2 : ¬ own_n jj = own_n ii := fun q => hn1 q.symm
  obtain ⟨uq, c1, c2, c3, c4, hD, hU, hc⟩ := hSt
  exact own_weak (rmIteP l Z av0 hw ws a0 (own_n 2) (own_n 3) (own_n 3) (own_n 3) h0 n0 Z0 hD.E (own_kpe _ _) (by decide)) (fun v h L q => ⟨3, (own_W ki kj 0 0 0), _, _, _, _, _, _, _, _, 4, q.1, q.2.1, q.2.2 ▸ Keep.refl _ _, by decide, q.2.2.symm ▸ hD, (own_base3 0 0 0 hii hjj ei ej i0 i8 j0 j8 pi pj).le (by decide), (by simp only [own_num, own_W]; have := own_expand ki kj; omega)⟩)
theorem own_F10_1 (l : Launch) (Z : State) (av0 : Array Value) (hw : ∀ d ∈ tables_1, d.before av0 Z = true) (ws : List Jvm.Cond) (a0 av al ah au qa qb qc qd : Addr) (ii jj : Nat) (pr : Nat → UInt64) (kk : Nat → Int) (ki kj : Int) (h0 : Heap) (n0 : Nat) (Z0 : n0 ≤ h0.size) (hS : own_Sep n0 [a0, av, al, ah, au, qa, qb, qc, qd]) (hSt : own_S Z h0 a0 av al ah au qa qb qc qd ii jj false) (hii : ii < 8) (hjj : jj < 8) (hne : ¬ ii = jj) (ei : kk ii = ki) (ej : kk jj = kj) (i0 : 0 ≤ ki) (i8 : ki ≤ 8) (j0 : 0 ≤ kj) (j8 : kj ≤ 8) (pi : Own.own_D 3 ki (pr ii)) (pj : Own.own_D 3 kj (pr jj)) (hlt : jj < ii) :
    own_Met l mN15 prog_72_method_3_code 14 (some .int) ws ({ frames := 3, cells := 7, slots := 103, locals := 48 } : Room) #[.ref a0, (.int (own_n 2)), (.int (own_n 3)), (.int (own_n 3))] Z h0 (own_QF Z a0 av al ah au qa qb qc qd pr kk (own_num ki kj 0 1 0 1) h0 n0) := by
  have hn1 : ¬ own_n ii = own_n jj := own_nne (by omega) (by omega) hne
  have hn2 : ¬ own_n jj = own_n ii := fun q => hn1 q.symm
  obtain ⟨uq, c1, c2, c3, c4, hD, hU, hc⟩ := hSt
  exact own_weak (rmIteP l Z av0 hw ws a0 (own_n 2) (own_n 3) (own_n 3) (own_n 3) h0 n0 Z0 hD.E (own_kpe _ _) (by decide)) (fun v h L q => ⟨3, (own_W ki kj 0 0 0), _, _, _, _, _, _, _, _, 4, q.1, q.2.1, q.2.2 ▸ Keep.refl _ _, by decide, q.2.2.symm ▸ hD, (own_base3 0 0 0 hii hjj ei ej i0 i8 j0 j8 pi pj).le (by decide), (by simp only [own_num, own_W]; have := own_expand ki kj; omega)⟩)
theorem own_F11_0 (l : Launch) (Z : State) (av0 : Array Value) (hw : ∀ d ∈ tables_1, d.before av0 Z = true) (ws : List Jvm.Cond) (a0 av al ah au qa qb qc qd : Addr) (ii jj : Nat) (pr : Nat → UInt64) (kk : Nat → Int) (ki kj : Int) (h0 : Heap) (n0 : Nat) (Z0 : n0 ≤ h0.size) (hS : own_Sep n0 [a0, av, al, ah, au, qa, qb, qc, qd]) (hSt : own_S Z h0 a0 av al ah au qa qb qc qd ii jj false) (hii : ii < 8) (hjj : jj < 8) (hne : ¬ ii = jj) (ei : kk ii = ki) (ej : kk jj = kj) (i0 : 0 ≤ ki) (i8 : ki ≤ 8) (j0 : 0 ≤ kj) (j8 : kj ≤ 8) (pi : Own.own_D 3 ki (pr ii)) (pj : Own.own_D 3 kj (pr jj)) (hlt : ii < jj) :
    own_Met l mN15 prog_72_method_3_code 14 (some .int) ws ({ frames := 3, cells := 7, slots := 103, locals := 48 } : Room) #[.ref a0, (.int (own_n 2)), (.int (own_n 3)), (.int (own_n 1))] Z h0 (own_QF Z a0 av al ah au qa qb qc qd pr kk (own_num ki kj 1 1 0 1) h0 n0) := by
  have hn1 : ¬ own_n ii = own_n jj := own_nne (by omega) (by omega) hne
  have hn2 : ¬ own_n jj = own_n ii := fun q => hn1 q.symm
  obtain ⟨uq, c1, c2, c3, c4, hD, hU, hc⟩ := hSt
  exact own_weak (rmIteB l Z av0 hw ws a0 av al ah au qa qb qc qd (own_vr ii jj) own_lw own_hg uq c1 c2 c3 c4 4 2 3 1 (own_n ii) h0 n0 Z0 hD hS hU (by decide) (by decide) (by decide) (by decide) (by decide) (show own_min (own_n ii) (own_min (own_n jj) own_MX) = own_n ii by rw [own_mnl hjj, own_mnk hlt hjj]) (by decide) (by decide) (by decide) (by rw [hc]; decide) rfl rfl rfl hn2 (own_mxn8 hii) (fun n h1 h2 => by
      rcases (show n = 2 ∨ n = 3 by omega) with rfl | rfl
      all_goals simp [own_vr, own_lw, own_hg, own_up, own_c0, own_c1, own_c2, own_c3, own_c4, own_c5, hn1, hn2])) (fun v h L q => by
    obtain ⟨k, hk, q1, q2, q3, q4, q5⟩ := q
    exact ⟨4, (own_W ki kj (ki * kj + (8 - ki) * 8) 0 0), _, _, _, _, _, _, _, _, 5, q1, q2, q3, by decide, q5, (own_base3 (ki * kj + (8 - ki) * 8) 0 0 hii hjj ei ej i0 i8 j0 j8 pi pj).step (vv := ii) (hN := 3) (lN := 1) (x := kj) (y := 8) (by decide) hii (by decide) (by decide) (by rw [ei]; exact pi) (by rw [ei]; exact i0) (by rw [ei]; exact i8) rfl rfl (by rw [ei]; rfl), (by simp only [own_num, own_W]; have := own_expand ki kj; omega)⟩)
theorem own_F11_1 (l : Launch) (Z : State) (av0 : Array Value) (hw : ∀ d ∈ tables_1, d.before av0 Z = true) (ws : List Jvm.Cond) (a0 av al ah au qa qb qc qd : Addr) (ii jj : Nat) (pr : Nat → UInt64) (kk : Nat → Int) (ki kj : Int) (h0 : Heap) (n0 : Nat) (Z0 : n0 ≤ h0.size) (hS : own_Sep n0 [a0, av, al, ah, au, qa, qb, qc, qd]) (hSt : own_S Z h0 a0 av al ah au qa qb qc qd ii jj false) (hii : ii < 8) (hjj : jj < 8) (hne : ¬ ii = jj) (ei : kk ii = ki) (ej : kk jj = kj) (i0 : 0 ≤ ki) (i8 : ki ≤ 8) (j0 : 0 ≤ kj) (j8 : kj ≤ 8) (pi : Own.own_D 3 ki (pr ii)) (pj : Own.own_D 3 kj (pr jj)) (hlt : jj < ii) :
    own_Met l mN15 prog_72_method_3_code 14 (some .int) ws ({ frames := 3, cells := 7, slots := 103, locals := 48 } : Room) #[.ref a0, (.int (own_n 2)), (.int (own_n 3)), (.int (own_n 1))] Z h0 (own_QF Z a0 av al ah au qa qb qc qd pr kk (own_num ki kj 1 1 0 1) h0 n0) := by
  have hn1 : ¬ own_n ii = own_n jj := own_nne (by omega) (by omega) hne
  have hn2 : ¬ own_n jj = own_n ii := fun q => hn1 q.symm
  obtain ⟨uq, c1, c2, c3, c4, hD, hU, hc⟩ := hSt
  exact own_weak (rmItePB l Z av0 hw ws a0 av al ah au qa qb qc qd (own_vr ii jj) own_lw own_hg uq c1 c2 c3 c4 4 2 3 1 (own_n jj) 1 1 1 (own_n ii) h0 n0 Z0 hD hS hU (by decide) (by decide) (by decide) (by decide) (by decide) (show own_min (own_n ii) (own_min (own_n jj) own_MX) = own_n jj by rw [own_mnl hjj, own_mng hlt hii]) (by decide) (by decide) (by decide) (by rw [hc]; decide) (by decide) hn1 (by decide) (by decide) (by decide) ⟨fun _ => rfl, fun q => absurd rfl q⟩ ⟨fun q => absurd q (own_mxn8 hjj), fun _ => rfl⟩ ⟨fun _ => rfl, fun q => absurd rfl q⟩ ⟨fun q => absurd q (own_mxn8 hjj), fun _ => rfl⟩ (own_kpe _ _) (by decide) (by decide) (fun n h1 h2 => by
      rcases (show n = 2 ∨ n = 3 by omega) with rfl | rfl
      all_goals simp [own_vr, own_lw, own_hg, own_up, own_c0, own_c1, own_c2, own_c3, own_c4, own_c5, hn1, hn2]) rfl hn1 rfl rfl (own_mxn8 hii) (own_mxn8 hii) (by rw [hc]; decide) (show own_min (own_n ii) (own_min own_MX own_MX) = own_n ii by rw [own_mxx, own_mnl hii]) (fun n h1 h2 => by
      rcases (show n = 2 ∨ n = 3 by omega) with rfl | rfl
      all_goals simp [own_vr, own_lw, own_hg, own_up, own_c0, own_c1, own_c2, own_c3, own_c4, own_c5, hn1, hn2])) (fun v h L q => by
    obtain ⟨_, _, _, _, _, q1, q2, q3, q5⟩ := q
    exact ⟨5, (own_W ki kj (8 * (8 - ki)) (kj * 8 + (8 - kj) * (8 - ki)) 0), _, _, _, _, _, _, _, _, 6, q1, q2, q3, by decide, q5, ((own_base3 (8 * (8 - ki)) (kj * 8 + (8 - kj) * (8 - ki)) 0 hii hjj ei ej i0 i8 j0 j8 pi pj).step (vv := ii) (hN := 0) (lN := 1) (x := 0) (y := 8) (by decide) hii (by decide) (by decide) (by rw [ei]; exact pi) (by rw [ei]; exact i0) (by rw [ei]; exact i8) rfl rfl (by rw [ei]; show 8 * (8 - ki) = ki * 0 + (8 - ki) * 8; omega)).step (vv := jj) (hN := 1) (lN := 4) (x := 8) (y := (8 - ki)) (by decide) hjj (by decide) (by decide) (by rw [ej]; exact pj) (by rw [ej]; exact j0) (by rw [ej]; exact j8) rfl rfl (by rw [ej]; rfl), (by simp only [own_num, own_W]; have := own_expand ki kj; omega)⟩)
theorem own_F12_0 (l : Launch) (Z : State) (av0 : Array Value) (hw : ∀ d ∈ tables_1, d.before av0 Z = true) (ws : List Jvm.Cond) (a0 av al ah au qa qb qc qd : Addr) (ii jj : Nat) (pr : Nat → UInt64) (kk : Nat → Int) (ki kj : Int) (h0 : Heap) (n0 : Nat) (Z0 : n0 ≤ h0.size) (hS : own_Sep n0 [a0, av, al, ah, au, qa, qb, qc, qd]) (hSt : own_S Z h0 a0 av al ah au qa qb qc qd ii jj false) (hii : ii < 8) (hjj : jj < 8) (hne : ¬ ii = jj) (ei : kk ii = ki) (ej : kk jj = kj) (i0 : 0 ≤ ki) (i8 : ki ≤ 8) (j0 : 0 ≤ kj) (j8 : kj ≤ 8) (pi : Own.own_D 3 ki (pr ii)) (pj : Own.own_D 3 kj (pr jj)) (hlt : ii < jj) :
    own_Met l mN15 prog_72_method_3_code 14 (some .int) ws ({ frames := 3, cells := 7, slots := 103, locals := 48 } : Room) #[.ref a0, (.int (own_n 2)), (.int (own_n 1)), (.int (own_n 0))] Z h0 (own_QF Z a0 av al ah au qa qb qc qd pr kk (own_num ki kj 0 0 1 1) h0 n0) := by
  have hn1 : ¬ own_n ii = own_n jj := own_nne (by omega) (by omega) hne
  have hn2 : ¬ own_n jj = own_n ii := fun q => hn1 q.symm
  obtain ⟨uq, c1, c2, c3, c4, hD, hU, hc⟩ := hSt
  exact own_weak (rmIteP l Z av0 hw ws a0 (own_n 2) (own_n 1) (own_n 0) (own_n 2) h0 n0 Z0 hD.E (own_kpf (by decide) (by decide)) (by decide)) (fun v h L q => ⟨2, (own_W ki kj 0 0 0), _, _, _, _, _, _, _, _, 4, q.1, q.2.1, q.2.2 ▸ Keep.refl _ _, by decide, q.2.2.symm ▸ hD, (own_base3 0 0 0 hii hjj ei ej i0 i8 j0 j8 pi pj).le (by decide), (by simp only [own_num, own_W]; have := own_expand ki kj; omega)⟩)
theorem own_F12_1 (l : Launch) (Z : State) (av0 : Array Value) (hw : ∀ d ∈ tables_1, d.before av0 Z = true) (ws : List Jvm.Cond) (a0 av al ah au qa qb qc qd : Addr) (ii jj : Nat) (pr : Nat → UInt64) (kk : Nat → Int) (ki kj : Int) (h0 : Heap) (n0 : Nat) (Z0 : n0 ≤ h0.size) (hS : own_Sep n0 [a0, av, al, ah, au, qa, qb, qc, qd]) (hSt : own_S Z h0 a0 av al ah au qa qb qc qd ii jj false) (hii : ii < 8) (hjj : jj < 8) (hne : ¬ ii = jj) (ei : kk ii = ki) (ej : kk jj = kj) (i0 : 0 ≤ ki) (i8 : ki ≤ 8) (j0 : 0 ≤ kj) (j8 : kj ≤ 8) (pi : Own.own_D 3 ki (pr ii)) (pj : Own.own_D 3 kj (pr jj)) (hlt : jj < ii) :
    own_Met l mN15 prog_72_method_3_code 14 (some .int) ws ({ frames := 3, cells := 7, slots := 103, locals := 48 } : Room) #[.ref a0, (.int (own_n 2)), (.int (own_n 1)), (.int (own_n 0))] Z h0 (own_QF Z a0 av al ah au qa qb qc qd pr kk (own_num ki kj 0 0 1 1) h0 n0) := by
  have hn1 : ¬ own_n ii = own_n jj := own_nne (by omega) (by omega) hne
  have hn2 : ¬ own_n jj = own_n ii := fun q => hn1 q.symm
  obtain ⟨uq, c1, c2, c3, c4, hD, hU, hc⟩ := hSt
  exact own_weak (rmIteP l Z av0 hw ws a0 (own_n 2) (own_n 1) (own_n 0) (own_n 2) h0 n0 Z0 hD.E (own_kpf (by decide) (by decide)) (by decide)) (fun v h L q => ⟨2, (own_W ki kj 0 0 0), _, _, _, _, _, _, _, _, 4, q.1, q.2.1, q.2.2 ▸ Keep.refl _ _, by decide, q.2.2.symm ▸ hD, (own_base3 0 0 0 hii hjj ei ej i0 i8 j0 j8 pi pj).le (by decide), (by simp only [own_num, own_W]; have := own_expand ki kj; omega)⟩)
theorem own_F13_0 (l : Launch) (Z : State) (av0 : Array Value) (hw : ∀ d ∈ tables_1, d.before av0 Z = true) (ws : List Jvm.Cond) (a0 av al ah au qa qb qc qd : Addr) (ii jj : Nat) (pr : Nat → UInt64) (kk : Nat → Int) (ki kj : Int) (h0 : Heap) (n0 : Nat) (Z0 : n0 ≤ h0.size) (hS : own_Sep n0 [a0, av, al, ah, au, qa, qb, qc, qd]) (hSt : own_S Z h0 a0 av al ah au qa qb qc qd ii jj true) (hii : ii < 8) (hjj : jj < 8) (hne : ¬ ii = jj) (ei : kk ii = ki) (ej : kk jj = kj) (i0 : 0 ≤ ki) (i8 : ki ≤ 8) (j0 : 0 ≤ kj) (j8 : kj ≤ 8) (pi : Own.own_D 3 ki (pr ii)) (pj : Own.own_D 3 kj (pr jj)) (hlt : ii < jj) :
    own_Met l mN15 prog_72_method_3_code 14 (some .int) ws ({ frames := 3, cells := 7, slots := 103, locals := 48 } : Room) #[.ref a0, (.int (own_n 2)), (.int (own_n 1)), (.int (own_n 4))] Z h0 (own_QF Z a0 av al ah au qa qb qc qd pr kk (own_num ki kj 1 0 1 1) h0 n0) := by
  have hn1 : ¬ own_n ii = own_n jj := own_nne (by omega) (by omega) hne
  have hn2 : ¬ own_n jj = own_n ii := fun q => hn1 q.symm
  obtain ⟨uq, c1, c2, c3, c4, hD, hU, hc, g1, g2, g3, g4⟩ := hSt
  exact own_weak (rmIteB l Z av0 hw ws a0 av al ah au qa qb qc qd (own_up (own_vr ii jj) 4 (own_n jj)) (own_up own_lw 4 (own_n 1)) (own_up own_hg 4 (own_n 0)) uq c1 c2 c3 c4 5 2 1 4 (own_n ii) h0 n0 Z0 hD hS hU (by decide) (by decide) (by decide) (by decide) (by decide) (show own_min (own_n ii) (own_min own_MX (own_n jj)) = own_n ii by rw [own_mnr hjj, own_mnk hlt hjj]) (by decide) (by decide) (by decide) (by rcases hc _ with q | q <;> rw [q] <;> decide) rfl rfl rfl (own_mxn8 hii) hn2 (fun n h1 h2 => by
      rcases (show n = 2 ∨ n = 3 ∨ n = 4 by omega) with rfl | rfl | rfl
      all_goals simp [own_vr, own_lw, own_hg, own_up, own_c0, own_c1, own_c2, own_c3, own_c4, own_c5, hn1, hn2])) (fun v h L q => by
    obtain ⟨k, hk, q1, q2, q3, q4, q5⟩ := q
    exact ⟨5, (own_W ki kj (8 * (8 - kj)) (ki * 8 + (8 - ki) * (8 - kj)) 0), _, _, _, _, _, _, _, _, 6, q1, q2, q3, by decide, q5, (own_base4 (ki * 8 + (8 - ki) * (8 - kj)) 0 hii hjj ei ej i0 i8 j0 j8 pi pj).step (vv := ii) (hN := 1) (lN := 4) (x := 8) (y := (8 - kj)) (by decide) hii (by decide) (by decide) (by rw [ei]; exact pi) (by rw [ei]; exact i0) (by rw [ei]; exact i8) rfl rfl (by rw [ei]; rfl), (by simp only [own_num, own_W]; have := own_expand ki kj; omega)⟩)
theorem own_F13_1 (l : Launch) (Z : State) (av0 : Array Value) (hw : ∀ d ∈ tables_1, d.before av0 Z = true) (ws : List Jvm.Cond) (a0 av al ah au qa qb qc qd : Addr) (ii jj : Nat) (pr : Nat → UInt64) (kk : Nat → Int) (ki kj : Int) (h0 : Heap) (n0 : Nat) (Z0 : n0 ≤ h0.size) (hS : own_Sep n0 [a0, av, al, ah, au, qa, qb, qc, qd]) (hSt : own_S Z h0 a0 av al ah au qa qb qc qd ii jj true) (hii : ii < 8) (hjj : jj < 8) (hne : ¬ ii = jj) (ei : kk ii = ki) (ej : kk jj = kj) (i0 : 0 ≤ ki) (i8 : ki ≤ 8) (j0 : 0 ≤ kj) (j8 : kj ≤ 8) (pi : Own.own_D 3 ki (pr ii)) (pj : Own.own_D 3 kj (pr jj)) (hlt : jj < ii) :
    own_Met l mN15 prog_72_method_3_code 14 (some .int) ws ({ frames := 3, cells := 7, slots := 103, locals := 48 } : Room) #[.ref a0, (.int (own_n 2)), (.int (own_n 1)), (.int (own_n 4))] Z h0 (own_QF Z a0 av al ah au qa qb qc qd pr kk (own_num ki kj 1 0 1 1) h0 n0) := by
  have hn1 : ¬ own_n ii = own_n jj := own_nne (by omega) (by omega) hne
  have hn2 : ¬ own_n jj = own_n ii := fun q => hn1 q.symm
  obtain ⟨uq, c1, c2, c3, c4, hD, hU, hc, g1, g2, g3, g4⟩ := hSt
  exact own_weak (rmItePP l Z av0 hw ws a0 av al ah au qa qb qc qd (own_up (own_vr ii jj) 4 (own_n jj)) (own_up own_lw 4 (own_n 1)) (own_up own_hg 4 (own_n 0)) uq c1 c2 c3 c4 5 2 1 4 (own_n jj) 1 0 1 1 2 1 (own_n ii) h0 n0 Z0 hD hS hU (by decide) (by decide) (by decide) (by decide) (by decide) (show own_min (own_n ii) (own_min own_MX (own_n jj)) = own_n jj by rw [own_mnr hjj, own_mng hlt hii]) (by decide) (by decide) (by decide) (by rcases hc _ with q | q <;> rw [q] <;> decide) (by decide) hn1 (by decide) (by decide) (by decide) ⟨fun q => absurd q (own_mxn8 hjj), fun _ => rfl⟩ ⟨fun _ => rfl, fun q => absurd rfl q⟩ ⟨fun q => absurd q (own_mxn8 hjj), fun _ => rfl⟩ ⟨fun _ => rfl, fun q => absurd rfl q⟩ (own_kpf (by decide) (by decide)) (own_kpe _ _) (by decide) (by decide) (by decide) (fun n h1 h2 => by
      rcases (show n = 2 ∨ n = 3 ∨ n = 4 by omega) with rfl | rfl | rfl
      all_goals simp [own_vr, own_lw, own_hg, own_up, own_c0, own_c1, own_c2, own_c3, own_c4, own_c5, hn1, hn2])) (fun v h L q => by
    obtain ⟨_, _, _, _, _, q1, q2, q3, q5⟩ := q
    exact ⟨5, (own_W ki kj (8 * (8 - kj)) (kj * ki + (8 - kj) * 8) 0), _, _, _, _, _, _, _, _, 6, q1, q2, q3, by decide, q5, (own_base4 (kj * ki + (8 - kj) * 8) 0 hii hjj ei ej i0 i8 j0 j8 pi pj).step (vv := jj) (hN := 2) (lN := 1) (x := ki) (y := 8) (by decide) hjj (by decide) (by decide) (by rw [ej]; exact pj) (by rw [ej]; exact j0) (by rw [ej]; exact j8) rfl rfl (by rw [ej]; rfl), (by simp only [own_num, own_W]; have := own_expand ki kj; omega)⟩)
theorem own_F14_0 (l : Launch) (Z : State) (av0 : Array Value) (hw : ∀ d ∈ tables_1, d.before av0 Z = true) (ws : List Jvm.Cond) (a0 av al ah au qa qb qc qd : Addr) (ii jj : Nat) (pr : Nat → UInt64) (kk : Nat → Int) (ki kj : Int) (h0 : Heap) (n0 : Nat) (Z0 : n0 ≤ h0.size) (hS : own_Sep n0 [a0, av, al, ah, au, qa, qb, qc, qd]) (hSt : own_S Z h0 a0 av al ah au qa qb qc qd ii jj false) (hii : ii < 8) (hjj : jj < 8) (hne : ¬ ii = jj) (ei : kk ii = ki) (ej : kk jj = kj) (i0 : 0 ≤ ki) (i8 : ki ≤ 8) (j0 : 0 ≤ kj) (j8 : kj ≤ 8) (pi : Own.own_D 3 ki (pr ii)) (pj : Own.own_D 3 kj (pr jj)) (hlt : ii < jj) :
    own_Met l mN15 prog_72_method_3_code 14 (some .int) ws ({ frames := 3, cells := 7, slots := 103, locals := 48 } : Room) #[.ref a0, (.int (own_n 2)), (.int (own_n 1)), (.int (own_n 3))] Z h0 (own_QF Z a0 av al ah au qa qb qc qd pr kk (own_num ki kj 0 1 1 1) h0 n0) := by
  have hn1 : ¬ own_n ii = own_n jj := own_nne (by omega) (by omega) hne
  have hn2 : ¬ own_n jj = own_n ii := fun q => hn1 q.symm
  obtain ⟨uq, c1, c2, c3, c4, hD, hU, hc⟩ := hSt
  exact own_weak (rmIteB l Z av0 hw ws a0 av al ah au qa qb qc qd (own_vr ii jj) own_lw own_hg uq c1 c2 c3 c4 4 2 1 3 (own_n ii) h0 n0 Z0 hD hS hU (by decide) (by decide) (by decide) (by decide) (by decide) (show own_min (own_n ii) (own_min own_MX (own_n jj)) = own_n ii by rw [own_mnr hjj, own_mnk hlt hjj]) (by decide) (by decide) (by decide) (by rw [hc]; decide) rfl rfl rfl (own_mxn8 hii) hn2 (fun n h1 h2 => by
      rcases (show n = 2 ∨ n = 3 by omega) with rfl | rfl
      all_goals simp [own_vr, own_lw, own_hg, own_up, own_c0, own_c1, own_c2, own_c3, own_c4, own_c5, hn1, hn2])) (fun v h L q => by
    obtain ⟨k, hk, q1, q2, q3, q4, q5⟩ := q
    exact ⟨4, (own_W ki kj (ki * 8 + (8 - ki) * kj) 0 0), _, _, _, _, _, _, _, _, 5, q1, q2, q3, by decide, q5, (own_base3 (ki * 8 + (8 - ki) * kj) 0 0 hii hjj ei ej i0 i8 j0 j8 pi pj).step (vv := ii) (hN := 1) (lN := 3) (x := 8) (y := kj) (by decide) hii (by decide) (by decide) (by rw [ei]; exact pi) (by rw [ei]; exact i0) (by rw [ei]; exact i8) rfl rfl (by rw [ei]; rfl), (by simp only [own_num, own_W]; have := own_expand ki kj; omega)⟩)
theorem own_F14_1 (l : Launch) (Z : State) (av0 : Array Value) (hw : ∀ d ∈ tables_1, d.before av0 Z = true) (ws : List Jvm.Cond) (a0 av al ah au qa qb qc qd : Addr) (ii jj : Nat) (pr : Nat → UInt64) (kk : Nat → Int) (ki kj : Int) (h0 : Heap) (n0 : Nat) (Z0 : n0 ≤ h0.size) (hS : own_Sep n0 [a0, av, al, ah, au, qa, qb, qc, qd]) (hSt : own_S Z h0 a0 av al ah au qa qb qc qd ii jj false) (hii : ii < 8) (hjj : jj < 8) (hne : ¬ ii = jj) (ei : kk ii = ki) (ej : kk jj = kj) (i0 : 0 ≤ ki) (i8 : ki ≤ 8) (j0 : 0 ≤ kj) (j8 : kj ≤ 8) (pi : Own.own_D 3 ki (pr ii)) (pj : Own.own_D 3 kj (pr jj)) (hlt : jj < ii) :
    own_Met l mN15 prog_72_method_3_code 14 (some .int) ws ({ frames := 3, cells := 7, slots := 103, locals := 48 } : Room) #[.ref a0, (.int (own_n 2)), (.int (own_n 1)), (.int (own_n 3))] Z h0 (own_QF Z a0 av al ah au qa qb qc qd pr kk (own_num ki kj 0 1 1 1) h0 n0) := by
  have hn1 : ¬ own_n ii = own_n jj := own_nne (by omega) (by omega) hne
  have hn2 : ¬ own_n jj = own_n ii := fun q => hn1 q.symm
  obtain ⟨uq, c1, c2, c3, c4, hD, hU, hc⟩ := hSt
  exact own_weak (rmItePP l Z av0 hw ws a0 av al ah au qa qb qc qd (own_vr ii jj) own_lw own_hg uq c1 c2 c3 c4 4 2 1 3 (own_n jj) 1 1 1 0 1 2 (own_n ii) h0 n0 Z0 hD hS hU (by decide) (by decide) (by decide) (by decide) (by decide) (show own_min (own_n ii) (own_min own_MX (own_n jj)) = own_n jj by rw [own_mnr hjj, own_mng hlt hii]) (by decide) (by decide) (by decide) (by rw [hc]; decide) (by decide) hn1 (by decide) (by decide) (by decide) ⟨fun q => absurd q (own_mxn8 hjj), fun _ => rfl⟩ ⟨fun _ => rfl, fun q => absurd rfl q⟩ ⟨fun q => absurd q (own_mxn8 hjj), fun _ => rfl⟩ ⟨fun _ => rfl, fun q => absurd rfl q⟩ (own_kpe _ _) (own_kpf (by decide) (by decide)) (by decide) (by decide) (by decide) (fun n h1 h2 => by
      rcases (show n = 2 ∨ n = 3 by omega) with rfl | rfl
      all_goals simp [own_vr, own_lw, own_hg, own_up, own_c0, own_c1, own_c2, own_c3, own_c4, own_c5, hn1, hn2])) (fun v h L q => by
    obtain ⟨_, _, _, _, _, q1, q2, q3, q5⟩ := q
    exact ⟨4, (own_W ki kj (kj * 8 + (8 - kj) * ki) 0 0), _, _, _, _, _, _, _, _, 5, q1, q2, q3, by decide, q5, (own_base3 (kj * 8 + (8 - kj) * ki) 0 0 hii hjj ei ej i0 i8 j0 j8 pi pj).step (vv := jj) (hN := 1) (lN := 2) (x := 8) (y := ki) (by decide) hjj (by decide) (by decide) (by rw [ej]; exact pj) (by rw [ej]; exact j0) (by rw [ej]; exact j8) rfl rfl (by rw [ej]; rfl), (by simp only [own_num, own_W]; have := own_expand ki kj; omega)⟩)
theorem own_F15_0 (l : Launch) (Z : State) (av0 : Array Value) (hw : ∀ d ∈ tables_1, d.before av0 Z = true) (ws : List Jvm.Cond) (a0 av al ah au qa qb qc qd : Addr) (ii jj : Nat) (pr : Nat → UInt64) (kk : Nat → Int) (ki kj : Int) (h0 : Heap) (n0 : Nat) (Z0 : n0 ≤ h0.size) (hS : own_Sep n0 [a0, av, al, ah, au, qa, qb, qc, qd]) (hSt : own_S Z h0 a0 av al ah au qa qb qc qd ii jj false) (hii : ii < 8) (hjj : jj < 8) (hne : ¬ ii = jj) (ei : kk ii = ki) (ej : kk jj = kj) (i0 : 0 ≤ ki) (i8 : ki ≤ 8) (j0 : 0 ≤ kj) (j8 : kj ≤ 8) (pi : Own.own_D 3 ki (pr ii)) (pj : Own.own_D 3 kj (pr jj)) (hlt : ii < jj) :
    own_Met l mN15 prog_72_method_3_code 14 (some .int) ws ({ frames := 3, cells := 7, slots := 103, locals := 48 } : Room) #[.ref a0, (.int (own_n 2)), (.int (own_n 1)), (.int (own_n 1))] Z h0 (own_QF Z a0 av al ah au qa qb qc qd pr kk (own_num ki kj 1 1 1 1) h0 n0) := by
  have hn1 : ¬ own_n ii = own_n jj := own_nne (by omega) (by omega) hne
  have hn2 : ¬ own_n jj = own_n ii := fun q => hn1 q.symm
  obtain ⟨uq, c1, c2, c3, c4, hD, hU, hc⟩ := hSt
  exact own_weak (rmIteP l Z av0 hw ws a0 (own_n 2) (own_n 1) (own_n 1) (own_n 1) h0 n0 Z0 hD.E (own_kpe _ _) (by decide)) (fun v h L q => ⟨1, (own_W ki kj 0 0 0), _, _, _, _, _, _, _, _, 4, q.1, q.2.1, q.2.2 ▸ Keep.refl _ _, by decide, q.2.2.symm ▸ hD, (own_base3 0 0 0 hii hjj ei ej i0 i8 j0 j8 pi pj).le (by decide), (by simp only [own_num, own_W]; have := own_expand ki kj; omega)⟩)
theorem own_F15_1 (l : Launch) (Z : State) (av0 : Array Value) (hw : ∀ d ∈ tables_1, d.before av0 Z = true) (ws : List Jvm.Cond) (a0 av al ah au qa qb qc qd : Addr) (ii jj : Nat) (pr : Nat → UInt64) (kk : Nat → Int) (ki kj : Int) (h0 : Heap) (n0 : Nat) (Z0 : n0 ≤ h0.size) (hS : own_Sep n0 [a0, av, al, ah, au, qa, qb, qc, qd]) (hSt : own_S Z h0 a0 av al ah au qa qb qc qd ii jj false) (hii : ii < 8) (hjj : jj < 8) (hne : ¬ ii = jj) (ei : kk ii = ki) (ej : kk jj = kj) (i0 : 0 ≤ ki) (i8 : ki ≤ 8) (j0 : 0 ≤ kj) (j8 : kj ≤ 8) (pi : Own.own_D 3 ki (pr ii)) (pj : Own.own_D 3 kj (pr jj)) (hlt : jj < ii) :
    own_Met l mN15 prog_72_method_3_code 14 (some .int) ws ({ frames := 3, cells := 7, slots := 103, locals := 48 } : Room) #[.ref a0, (.int (own_n 2)), (.int (own_n 1)), (.int (own_n 1))] Z h0 (own_QF Z a0 av al ah au qa qb qc qd pr kk (own_num ki kj 1 1 1 1) h0 n0) := by
  have hn1 : ¬ own_n ii = own_n jj := own_nne (by omega) (by omega) hne
  have hn2 : ¬ own_n jj = own_n ii := fun q => hn1 q.symm
  obtain ⟨uq, c1, c2, c3, c4, hD, hU, hc⟩ := hSt
  exact own_weak (rmIteP l Z av0 hw ws a0 (own_n 2) (own_n 1) (own_n 1) (own_n 1) h0 n0 Z0 hD.E (own_kpe _ _) (by decide)) (fun v h L q => ⟨1, (own_W ki kj 0 0 0), _, _, _, _, _, _, _, _, 4, q.1, q.2.1, q.2.2 ▸ Keep.refl _ _, by decide, q.2.2.symm ▸ hD, (own_base3 0 0 0 hii hjj ei ej i0 i8 j0 j8 pi pj).le (by decide), (by simp only [own_num, own_W]; have := own_expand ki kj; omega)⟩)
theorem own_iteF (l : Launch) (Z : State) (av0 : Array Value) (hw : ∀ d ∈ tables_1, d.before av0 Z = true) (ws : List Jvm.Cond) (a0 av al ah au qa qb qc qd : Addr) (ii jj : Nat) (pr : Nat → UInt64) (kk : Nat → Int) (ki kj : Int) (t00 t01 t10 t11 : Nat) (h0 : Heap) (n0 : Nat) (Z0 : n0 ≤ h0.size) (hS : own_Sep n0 [a0, av, al, ah, au, qa, qb, qc, qd]) (hSt : own_S Z h0 a0 av al ah au qa qb qc qd ii jj ((false || (decide (t01 = 0) && decide (t00 = 1))) || (decide (t11 = 0) && decide (t10 = 1)))) (hii : ii < 8) (hjj : jj < 8) (hne : ¬ ii = jj) (ei : kk ii = ki) (ej : kk jj = kj) (i0 : 0 ≤ ki) (i8 : ki ≤ 8) (j0 : 0 ≤ kj) (j8 : kj ≤ 8) (pi : Own.own_D 3 ki (pr ii)) (pj : Own.own_D 3 kj (pr jj)) (b00 : t00 < 2) (b01 : t01 < 2) (b10 : t10 < 2) (b11 : t11 < 2) :
    own_Met l mN15 prog_72_method_3_code 14 (some .int) ws ({ frames := 3, cells := 7, slots := 103, locals := 48 } : Room) #[.ref a0, (.int (own_n 2)), (.int (own_n (own_r t11 t10))), (.int (own_n (own_r t01 t00)))] Z h0 (own_QF Z a0 av al ah au qa qb qc qd pr kk (own_num ki kj t00 t01 t10 t11) h0 n0) := by
  rcases (show t00 = 0 ∨ t00 = 1 by omega) with rfl | rfl <;> rcases (show t01 = 0 ∨ t01 = 1 by omega) with rfl | rfl <;> rcases (show t10 = 0 ∨ t10 = 1 by omega) with rfl | rfl <;> rcases (show t11 = 0 ∨ t11 = 1 by omega) with rfl | rfl
  · by_cases hlt : ii < jj
    · exact own_F0_0 l Z av0 hw ws a0 av al ah au qa qb qc qd ii jj pr kk ki kj h0 n0 Z0 hS hSt hii hjj hne ei ej i0 i8 j0 j8 pi pj hlt
    · exact own_F0_1 l Z av0 hw ws a0 av al ah au qa qb qc qd ii jj pr kk ki kj h0 n0 Z0 hS hSt hii hjj hne ei ej i0 i8 j0 j8 pi pj (by omega)
  · by_cases hlt : ii < jj
    · exact own_F8_0 l Z av0 hw ws a0 av al ah au qa qb qc qd ii jj pr kk ki kj h0 n0 Z0 hS hSt hii hjj hne ei ej i0 i8 j0 j8 pi pj hlt
    · exact own_F8_1 l Z av0 hw ws a0 av al ah au qa qb qc qd ii jj pr kk ki kj h0 n0 Z0 hS hSt hii hjj hne ei ej i0 i8 j0 j8 pi pj (by omega)
  · by_cases hlt : ii < jj
    · exact own_F4_0 l Z av0 hw ws a0 av al ah au qa qb qc qd ii jj pr kk ki kj h0 n0 Z0 hS hSt hii hjj hne ei ej i0 i8 j0 j8 pi pj hlt
    · exact own_F4_1 l Z av0 hw ws a0 av al ah au qa qb qc qd ii jj pr kk ki kj h0 n0 Z0 hS hSt hii hjj hne ei ej i0 i8 j0 j8 pi pj (by omega)
  · by_cases hlt : ii < jj
    · exact own_F12_0 l Z av0 hw ws a0 av al ah au qa qb qc qd ii jj pr kk ki kj h0 n0 Z0 hS hSt hii hjj hne ei ej i0 i8 j0 j8 pi pj hlt
    · exact own_F12_1 l Z av0 hw ws a0 av al ah au qa qb qc qd ii jj pr kk ki kj h0 n0 Z0 hS hSt hii hjj hne ei ej i0 i8 j0 j8 pi pj (by omega)
  · by_cases hlt : ii < jj
    · exact own_F2_0 l Z av0 hw ws a0 av al ah au qa qb qc qd ii jj pr kk ki kj h0 n0 Z0 hS hSt hii hjj hne ei ej i0 i8 j0 j8 pi pj hlt
    · exact own_F2_1 l Z av0 hw ws a0 av al ah au qa qb qc qd ii jj pr kk ki kj h0 n0 Z0 hS hSt hii hjj hne ei ej i0 i8 j0 j8 pi pj (by omega)
  · by_cases hlt : ii < jj
    · exact own_F10_0 l Z av0 hw ws a0 av al ah au qa qb qc qd ii jj pr kk ki kj h0 n0 Z0 hS hSt hii hjj hne ei ej i0 i8 j0 j8 pi pj hlt
    · exact own_F10_1 l Z av0 hw ws a0 av al ah au qa qb qc qd ii jj pr kk ki kj h0 n0 Z0 hS hSt hii hjj hne ei ej i0 i8 j0 j8 pi pj (by omega)
  · by_cases hlt : ii < jj
    · exact own_F6_0 l Z av0 hw ws a0 av al ah au qa qb qc qd ii jj pr kk ki kj h0 n0 Z0 hS hSt hii hjj hne ei ej i0 i8 j0 j8 pi pj hlt
    · exact own_F6_1 l Z av0 hw ws a0 av al ah au qa qb qc qd ii jj pr kk ki kj h0 n0 Z0 hS hSt hii hjj hne ei ej i0 i8 j0 j8 pi pj (by omega)
  · by_cases hlt : ii < jj
    · exact own_F14_0 l Z av0 hw ws a0 av al ah au qa qb qc qd ii jj pr kk ki kj h0 n0 Z0 hS hSt hii hjj hne ei ej i0 i8 j0 j8 pi pj hlt
    · exact own_F14_1 l Z av0 hw ws a0 av al ah au qa qb qc qd ii jj pr kk ki kj h0 n0 Z0 hS hSt hii hjj hne ei ej i0 i8 j0 j8 pi pj (by omega)
  · by_cases hlt : ii < jj
    · exact own_F1_0 l Z av0 hw ws a0 av al ah au qa qb qc qd ii jj pr kk ki kj h0 n0 Z0 hS hSt hii hjj hne ei ej i0 i8 j0 j8 pi pj hlt
    · exact own_F1_1 l Z av0 hw ws a0 av al ah au qa qb qc qd ii jj pr kk ki kj h0 n0 Z0 hS hSt hii hjj hne ei ej i0 i8 j0 j8 pi pj (by omega)
  · by_cases hlt : ii < jj
    · exact own_F9_0 l Z av0 hw ws a0 av al ah au qa qb qc qd ii jj pr kk ki kj h0 n0 Z0 hS hSt hii hjj hne ei ej i0 i8 j0 j8 pi pj hlt
    · exact own_F9_1 l Z av0 hw ws a0 av al ah au qa qb qc qd ii jj pr kk ki kj h0 n0 Z0 hS hSt hii hjj hne ei ej i0 i8 j0 j8 pi pj (by omega)
  · by_cases hlt : ii < jj
    · exact own_F5_0 l Z av0 hw ws a0 av al ah au qa qb qc qd ii jj pr kk ki kj h0 n0 Z0 hS hSt hii hjj hne ei ej i0 i8 j0 j8 pi pj hlt
    · exact own_F5_1 l Z av0 hw ws a0 av al ah au qa qb qc qd ii jj pr kk ki kj h0 n0 Z0 hS hSt hii hjj hne ei ej i0 i8 j0 j8 pi pj (by omega)
  · by_cases hlt : ii < jj
    · exact own_F13_0 l Z av0 hw ws a0 av al ah au qa qb qc qd ii jj pr kk ki kj h0 n0 Z0 hS hSt hii hjj hne ei ej i0 i8 j0 j8 pi pj hlt
    · exact own_F13_1 l Z av0 hw ws a0 av al ah au qa qb qc qd ii jj pr kk ki kj h0 n0 Z0 hS hSt hii hjj hne ei ej i0 i8 j0 j8 pi pj (by omega)
  · by_cases hlt : ii < jj
    · exact own_F3_0 l Z av0 hw ws a0 av al ah au qa qb qc qd ii jj pr kk ki kj h0 n0 Z0 hS hSt hii hjj hne ei ej i0 i8 j0 j8 pi pj hlt
    · exact own_F3_1 l Z av0 hw ws a0 av al ah au qa qb qc qd ii jj pr kk ki kj h0 n0 Z0 hS hSt hii hjj hne ei ej i0 i8 j0 j8 pi pj (by omega)
  · by_cases hlt : ii < jj
    · exact own_F11_0 l Z av0 hw ws a0 av al ah au qa qb qc qd ii jj pr kk ki kj h0 n0 Z0 hS hSt hii hjj hne ei ej i0 i8 j0 j8 pi pj hlt
    · exact own_F11_1 l Z av0 hw ws a0 av al ah au qa qb qc qd ii jj pr kk ki kj h0 n0 Z0 hS hSt hii hjj hne ei ej i0 i8 j0 j8 pi pj (by omega)
  · by_cases hlt : ii < jj
    · exact own_F7_0 l Z av0 hw ws a0 av al ah au qa qb qc qd ii jj pr kk ki kj h0 n0 Z0 hS hSt hii hjj hne ei ej i0 i8 j0 j8 pi pj hlt
    · exact own_F7_1 l Z av0 hw ws a0 av al ah au qa qb qc qd ii jj pr kk ki kj h0 n0 Z0 hS hSt hii hjj hne ei ej i0 i8 j0 j8 pi pj (by omega)
  · by_cases hlt : ii < jj
    · exact own_F15_0 l Z av0 hw ws a0 av al ah au qa qb qc qd ii jj pr kk ki kj h0 n0 Z0 hS hSt hii hjj hne ei ej i0 i8 j0 j8 pi pj hlt
    · exact own_F15_1 l Z av0 hw ws a0 av al ah au qa qb qc qd ii jj pr kk ki kj h0 n0 Z0 hS hSt hii hjj hne ei ej i0 i8 j0 j8 pi pj (by omega)
theorem own_lf {t : Nat} (ht : t < 2) (h : ¬ own_n t = 1) : (0 : Int32) = own_n t := by
  rcases (show t = 0 ∨ t = 1 by omega) with rfl | rfl
  · rfl
  · exact absurd rfl h
theorem own_nmul (x y : Nat) : own_n x * own_n y = own_n (x * y) := by unfold own_n; exact (Int32.ofNat_mul x y).symm
theorem own_nplus (x y : Nat) : own_n x + own_n y = own_n (x + y) := by unfold own_n; exact (Int32.ofNat_add x y).symm
theorem own_sub8 {k : Nat} (h : k ≤ 8) : (8 : Int32) - own_n k = own_n (8 - k) := by
  have := own_nplus (8 - k) k
  rw [show 8 - k + k = 8 by omega] at this
  rw [show (8 : Int32) = own_n 8 from rfl, ← this]; simp
def own_P (p k : Int32) : Int32 := (p &&& 2147483647) - ((p &&& 2147483647) / k) * k
theorem own_Pv (p k : Int32) (hk : 0 < k.toInt) : (own_P p k).toInt = (p &&& 2147483647).toInt % k.toInt := by
  unfold own_P
  rw [irem_eq_mod]
  have h := c_mask p 2147483647 31 (by decide) (by decide)
  exact (c_irem _ k _ rfl).1 (by rw [h]; omega)
theorem own_PN (p k : Int32) (K : Nat) (hk : k.toInt = K) (h0 : 0 < K) (h1 : K < 100) : ∃ n : Nat, n < K ∧ own_P p k = own_n n := by
  have h := own_Pv p k (by omega)
  rw [hk] at h
  have a := Int.emod_nonneg (p &&& 2147483647).toInt (b := (K : Int)) (by omega)
  have b := Int.emod_lt_of_pos (p &&& 2147483647).toInt (b := (K : Int)) (by omega)
  refine ⟨(own_P p k).toInt.toNat, by omega, ?_⟩
  rw [← Int32.toInt_inj, own_nI (by omega)]; omega
theorem own_MN (y m : Int32) (k : Nat) (hk : k ≤ 10) (hm : m.toBitVec.toNat = 2 ^ k - 1) : ∃ n : Nat, n < 2 ^ k ∧ y &&& m = own_n n := by
  have h := c_mask y m k (by omega) hm
  have hp : 2 ^ k ≤ 2 ^ 10 := Nat.pow_le_pow_right (by decide) hk
  have hq := Nat.two_pow_pos k
  have a := Int.emod_nonneg y.toInt (b := ((2 ^ k : Nat) : Int)) (by omega)
  have b := Int.emod_lt_of_pos y.toInt (b := ((2 ^ k : Nat) : Int)) (by omega)
  refine ⟨(y &&& m).toInt.toNat, by omega, ?_⟩
  rw [← Int32.toInt_inj, own_nI (by omega)]; omega
theorem own_J {ii r : Nat} (hi : ii < 8) (hr : r < 7) : ∃ jj : Nat, jj < 8 ∧ ¬ ii = jj ∧ ((own_n ii + (1 : Int32)) + own_n r) &&& (7 : Int32) = own_n jj := by
  refine ⟨(ii + 1 + r) % 8, by omega, by omega, ?_⟩
  rw [show (1 : Int32) = own_n 1 from rfl, own_nplus, own_nplus, ← Int32.toInt_inj, c_mask _ 7 3 (by decide) (by decide), own_nI (by omega), own_nI (by omega)]; omega
def own_e (k : Nat) : UInt64 := FP.ddiv (FP.i2d (own_n k)) (4620693217682128896 : UInt64)
def own_f (k : Nat) : UInt64 := FP.ddiv (FP.i2d (own_n k)) (4634204016564240384 : UInt64)
theorem own_i2 {k : Nat} (h : k < 1000) : Jvm.FP.Core.DInt (k : Int) (FP.i2d (own_n k)) := by
  have := Jvm.FP.Core.i2d_int (own_n k); rw [own_nI (by omega)] at this; exact this
theorem own_eight : Jvm.FP.Core.DInt ((2 ^ 3 : Nat) : Int) (4620693217682128896 : UInt64) := by
  show Jvm.FP.Core.Whole _ (Jvm.FP.Core.val64 _)
  rw [show Jvm.FP.Core.val64 (4620693217682128896 : UInt64) = .fin false (2 ^ 52) (-49) by decide +kernel]
  show Jvm.FP.Core.signed false (2 ^ 52 * 2 ^ (-49 : Int).toNat) = ((2 ^ 3 : Nat) : Int) * ((2 ^ (-(-49 : Int)).toNat : Nat) : Int); decide
theorem own_64 : Jvm.FP.Core.DInt ((2 ^ 6 : Nat) : Int) (4634204016564240384 : UInt64) := by
  show Jvm.FP.Core.Whole _ (Jvm.FP.Core.val64 _)
  rw [show Jvm.FP.Core.val64 (4634204016564240384 : UInt64) = .fin false (2 ^ 52) (-46) by decide +kernel]
  show Jvm.FP.Core.signed false (2 ^ 52 * 2 ^ (-46 : Int).toNat) = ((2 ^ 6 : Nat) : Int) * ((2 ^ (-(-46 : Int)).toNat : Nat) : Int); decide
theorem own_eD {k : Nat} (h : k < 1000) : Own.own_D 3 (k : Int) (own_e k) := Own.own_D_div (own_i2 h) own_eight (by decide) (by omega)
theorem own_fD {k : Nat} (h : k < 1000) : Own.own_D 6 (k : Int) (own_f k) := Own.own_D_div (own_i2 h) own_64 (by decide) (by omega)
theorem own_nnD {k : Nat} {i : Int} {y : UInt64} (h : Own.own_D k i y) : Jvm.Free.Fl.NoNaN64 y := Jvm.Free.Fl.val64_no.mpr (Own.own_D_nn h)
def own_kk (ii jj ki kj v : Nat) : Int := if v = ii then (ki : Int) else if v = jj then (kj : Int) else 0
def own_N (ki kj t00 t01 t10 t11 : Nat) : Nat := (((t00 * (8 - ki)) * (8 - kj)) + ((t01 * (8 - ki)) * kj)) + ((t10 * ki) * (8 - kj)) + ((t11 * ki) * kj)
theorem own_NI {ki kj t00 t01 t10 t11 : Nat} (hi : ki ≤ 8) (hj : kj ≤ 8) : (own_N ki kj t00 t01 t10 t11 : Int) = own_num ki kj t00 t01 t10 t11 := by
  unfold own_N own_num
  have e1 : ((8 - ki : Nat) : Int) = 8 - (ki : Int) := by omega
  have e2 : ((8 - kj : Nat) : Int) = 8 - (kj : Int) := by omega
  simp only [Int.natCast_add, Int.natCast_mul, e1, e2, Int.mul_assoc]
theorem own_Nb {ki kj t00 t01 t10 t11 : Nat} (hi : ki ≤ 8) (hj : kj ≤ 8) (b00 : t00 < 2) (b01 : t01 < 2) (b10 : t10 < 2) (b11 : t11 < 2) : own_N ki kj t00 t01 t10 t11 < 1000 := by
  have m : ∀ {t x y : Nat}, t < 2 → x ≤ 8 → y ≤ 8 → (t * x) * y ≤ 64 := fun {t x y} ht hx hy => by
    have a := Nat.mul_le_mul (Nat.mul_le_mul (show t ≤ 1 by omega) hx) hy; exact a
  have a1 := m b00 (show 8 - ki ≤ 8 by omega) (show 8 - kj ≤ 8 by omega)
  have a2 := m b01 (show 8 - ki ≤ 8 by omega) hj
  have a3 := m b10 hi (show 8 - kj ≤ 8 by omega)
  have a4 := m b11 hi hj
  unfold own_N; omega
theorem d8_0 : decode method_3_code 0 = .ok (.iload_n 0, 1) := by decide +kernel
theorem d8_1 : decode method_3_code 1 = .ok (.iconst 1, 1) := by decide +kernel
theorem d8_2 : decode method_3_code 2 = .ok (.if_icmp .ne 7, 3) := by decide +kernel
theorem d8_5 : decode method_3_code 5 = .ok (.iconst 1, 1) := by decide +kernel
theorem d8_6 : decode method_3_code 6 = .ok (.goto 4, 3) := by decide +kernel
theorem d8_9 : decode method_3_code 9 = .ok (.iconst 0, 1) := by decide +kernel
theorem d8_10 : decode method_3_code 10 = .ok (.ireturn, 1) := by decide +kernel
theorem pn_DecisionDiagramProbabilityPinLaw : plainName "com/example/prolong/prolong/tree/DecisionDiagramProbabilityPinLaw" = true := by first | (simp [plainName, overriddenIn]; done) | decide +kernel
def QrmLeaf (Z : State) (t : Nat) (h0 : Heap) (n0 : Nat) (v : Option Value) (h : Heap) (L : List Loc) : Prop := v = some (.int (own_n t)) ∧ Fr n0 L ∧ h = h0
set_option maxRecDepth 65536 in
set_option maxHeartbeats 40000000 in
theorem rmLeaf (l : Launch) (Z : State) (av0 : Array Value) (hw : ∀ d ∈ tables_1, d.before av0 Z = true) (ws : List Jvm.Cond) (t : Nat) (h0 : Heap) (n0 : Nat) (Z0 : n0 ≤ h0.size) (ht : t < 2) :
    own_Met l mN18 method_3_code 1 (some .int) ws ({ frames := 0, cells := 0, slots := 0, locals := 0 } : Room) #[(.int (own_n t))] Z h0 (QrmLeaf Z t h0 n0) := by
  refine MetFree.of_bodySF (plainFor_of_name pn_DecisionDiagramProbabilityPinLaw) hisR ?_
  intro p e s m args below meth c s₁ Bd hml0 hP hK
  obtain ⟨rfl, hZ, hh⟩ := hP
  have hml : c.maxLocals = 1 := hml0
  obtain ⟨hx, hby, hown, hnm, X0, e0⟩ := own_start Bd hml0 hh
  have N0 := Fr.nil n0
  have pre0 : ∀ tz, oS p e below s₁ (mkF m 0 #[iv (own_n t)] []) tz → Steps p.tables e below (s₁.setTop (entryFrame m #[(.int (own_n t))] 1)) tz := fun tz kz => castTop (by first | (simp [entryFrame, mkF, argsToLocals, Value.category]; done) | rfl) kz
  have S1 : ∀ tz, oS p e below s₁ (mkF m 2 #[iv (own_n t)] [(.int 1), (.int (own_n t))]) tz → oS p e below s₁ (mkF m 0 #[iv (own_n t)] []) tz := fun tz kz => id (by
    show oS p e below s₁ (mkF m 0 #[iv (own_n t)] []) _
    refine XS.iloadN X0.here hx rfl (hb hby d8_0) rfl ?_
    refine XT.iconstV X0.here hx rfl (1 : Int32) (hb hby d8_1) (by decide) ?_
    exact kz)
  by_cases hc2_2 : (own_n t) = (1 : Int32)
  · have S3 : ∀ tz, oS p e below s₁ (mkF m 10 #[iv (own_n t)] [(.int 1)]) tz → oS p e below s₁ (mkF m 0 #[iv (own_n t)] []) tz := fun tz kz => S1 tz (by
      show oS p e below s₁ (mkF m 2 #[iv (own_n t)] [(.int 1), (.int (own_n t))]) _
      refine XS.icmpNo X0.here hx rfl (hb hby d8_2) rfl (XT.ii_ne_f hc2_2) ?_
      refine XT.iconstV X0.here hx rfl (1 : Int32) (hb hby d8_5) (by decide) ?_
      refine XS.goto X0.here hx rfl (pc0 := 6) (pc' := 10) rfl (hb hby d8_6) (by decide) (by decide) ?_
      exact kz)
    obtain ⟨fs, hr, hrun, hended, hW, hsame⟩ := X0.leave (v := some (.int 1)) (fun h => by rw [Bd.returns] at h; cases h)
    refine ⟨_, _, pre0 _ (S3 _ ?_), hrun, hended, _, _, rfl, ?_, ⟨_, rfl⟩, hW, hsame.mono (by decide) (by decide)⟩
    · exact retI X0 hx Bd.returns (hb hby d8_10) hr
    · show QrmLeaf Z t h0 n0 _ s₁.heap _
      rw [e0]
      exact ⟨congrArg (fun z => some (Value.int z)) hc2_2.symm, N0, rfl⟩
  · have S4 : ∀ tz, oS p e below s₁ (mkF m 10 #[iv (own_n t)] [(.int 0)]) tz → oS p e below s₁ (mkF m 0 #[iv (own_n t)] []) tz := fun tz kz => S1 tz (by
      show oS p e below s₁ (mkF m 2 #[iv (own_n t)] [(.int 1), (.int (own_n t))]) _
      refine XS.icmpYes X0.here hx rfl (pc0 := 2) (pc' := 9) rfl (hb hby d8_2) rfl (XT.ii_ne_t hc2_2) (by decide) (by decide) ?_
      refine XT.iconstV X0.here hx rfl (0 : Int32) (hb hby d8_9) (by decide) ?_
      exact kz)
    obtain ⟨fs, hr, hrun, hended, hW, hsame⟩ := X0.leave (v := some (.int 0)) (fun h => by rw [Bd.returns] at h; cases h)
    refine ⟨_, _, pre0 _ (S4 _ ?_), hrun, hended, _, _, rfl, ?_, ⟨_, rfl⟩, hW, hsame.mono (by decide) (by decide)⟩
    · exact retI X0 hx Bd.returns (hb hby d8_10) hr
    · show QrmLeaf Z t h0 n0 _ s₁.heap _
      rw [e0]
      exact ⟨congrArg (fun z => some (Value.int z)) (own_lf ht hc2_2), N0, rfl⟩
theorem own_ceq {i : Int} {x y : UInt64} (h1 : Own.own_D 6 i x) (h2 : Own.own_D 6 i y) : cmpValue (FP.dcmp x y) .l = 0 := by
  rw [show FP.dcmp x y = some (compare i i) from Own.own_D_cmp h1 h2, Jvm.FP.Core.compare_self_int]; rfl
theorem pd__I_I : parseMethodDescriptor "(I)I" = some ⟨[.int], some .int⟩ := by decide +kernel
theorem pd__IA_D_D : parseMethodDescriptor "(I[D)D" = some ⟨[.int, (.array .double)], some .double⟩ := by decide +kernel
def Qrm0 (Z : State) (p0 : Int32) (p1 : Int32) (p2 : Int32) (p3 : Int32) (p4 : Int32) (p5 : Int32) (ii : Nat) (jj : Nat) (ki : Nat) (kj : Nat) (ko : Nat) (t00 : Nat) (t01 : Nat) (t10 : Nat) (t11 : Nat) (h0 : Heap) (n0 : Nat) (v : Option Value) (h : Heap) (L : List Loc) : Prop := v = some (.int (1 : Int32)) ∧ Fr n0 L
set_option maxRecDepth 65536 in
set_option maxHeartbeats 40000000 in
theorem rm0 (l : Launch) (Z : State) (av0 : Array Value) (hw : ∀ d ∈ tables_1, d.before av0 Z = true) (ws : List Jvm.Cond) (p0 : Int32) (p1 : Int32) (p2 : Int32) (p3 : Int32) (p4 : Int32) (p5 : Int32) (ii : Nat) (jj : Nat) (ki : Nat) (kj : Nat) (ko : Nat) (t00 : Nat) (t01 : Nat) (t10 : Nat) (t11 : Nat) (h0 : Heap) (n0 : Nat) (Z0 : n0 ≤ h0.size) (hi : p0 &&& (7 : Int32) = own_n ii) (hj : ((own_n ii + (1 : Int32)) + (own_P p1 (7 : Int32))) &&& (7 : Int32) = own_n jj) (hki : own_P p2 (9 : Int32) = own_n ki) (hkj : own_P p3 (9 : Int32) = own_n kj) (hko : own_P p4 (9 : Int32) = own_n ko) (ht00 : p5 &&& (1 : Int32) = own_n t00) (ht01 : (p5 >>> ((1 : Int32) &&& 31)) &&& (1 : Int32) = own_n t01) (ht10 : (p5 >>> ((2 : Int32) &&& 31)) &&& (1 : Int32) = own_n t10) (ht11 : (p5 >>> ((3 : Int32) &&& 31)) &&& (1 : Int32) = own_n t11) (hii : ii < 8) (hjj : jj < 8) (hne : ¬ ii = jj) (hki8 : ki ≤ 8) (hkj8 : kj ≤ 8) (hko8 : ko ≤ 8) (b00 : t00 < 2) (b01 : t01 < 2) (b10 : t10 < 2) (b11 : t11 < 2) :
    MetFree l x (head1 (Jvm.Cond.code x code maxLocals ret :: ws) room_1) (fun aU U => aU = #[(.int p0), (.int p1), (.int p2), (.int p3), (.int p4), (.int p5)] ∧ Z.Warmed39 U.vm ∧ U.heap = h0) (fun _ _ _ _ _ => True) (fun _ U oU U' => ∃ vU LU, oU = .returned vU ∧ Qrm0 Z p0 p1 p2 p3 p4 p5 ii jj ki kj ko t00 t01 t10 t11 h0 n0 vU U'.heap LU ∧ FrameEnd U oU U' LU room_1.cells room_1.slots) := by
  refine MetFree.of_bodySF (plainFor_of_name pn_DecisionDiagramProbabilityPinLaw) hisR ?_
  intro p e s m args below meth c s₁ Bd hml0 hP hK
  obtain ⟨rfl, hZ, hh⟩ := hP
  have hml : c.maxLocals = 29 := hml0
  obtain ⟨hx, hby, hown, hnm, X0, e0⟩ := own_start Bd hml0 hh
  have N0 := Fr.nil n0
  have pre0 : ∀ tz, oS p e below s₁ (mkF m 0 #[iv p0, iv p1, iv p2, iv p3, iv p4, iv p5, .unset, .unset, .unset, .unset, .unset, .unset, .unset, .unset, .unset, .unset, .unset, .unset, .unset, .unset, .unset, .unset, .unset, .unset, .unset, .unset, .unset, .unset, .unset] []) tz → Steps p.tables e below (s₁.setTop (entryFrame m #[(.int p0), (.int p1), (.int p2), (.int p3), (.int p4), (.int p5)] maxLocals)) tz := fun tz kz => castTop (by first | (simp [entryFrame, mkF, argsToLocals, Value.category, maxLocals]; done) | rfl) kz
  obtain ⟨T1, h1, k1, X1, e1, E1, A1, st1⟩ := newP X0 hx hZ (hw _ (own_w 2 rfl)) e0 (g := (mkF m 62 #[iv p0, iv p1, iv p2, iv p3, iv p4, iv p5, iv (own_n ii), iv (own_n jj), iv (own_n ki), iv (own_n kj), iv (own_n ko), .val (.double (own_e ko)), .second, .unset, .unset, .unset, .unset, .unset, .unset, .unset, .unset, .unset, .unset, .unset, .unset, .unset, .unset, .unset, .unset] [(.int 8)])) rfl (hb hby at_62) rfl (by decide) (cap := 8) (by decide) (by decide) (by decide) (by decide)
  obtain ⟨b1, g1⟩ : ∃ z, z = h0.size := ⟨_, rfl⟩
  rw [← g1] at A1 st1
  have ge_b1 : n0 ≤ b1 := Nat.le_trans Z0 (Nat.le_of_eq g1.symm)
  have sz_b1 : h0.size ≤ b1 := Nat.le_of_eq g1.symm
  have Z1 : n0 ≤ h1.size := Nat.le_trans Z0 E1.1
  have K1 : Keep h0 h1 [] := (Keep.refl h0 []).ext E1
  have V1 : own_Ad Z h1 b1 8 (fun _ => 0) := own_newD 8 (by omega) A1
  obtain ⟨kc2, cl2, Ar2, qk2, Sz2, Ng2, Hs2, Gs2⟩ := id V1
  have hin2 : ¬ ((0 : Int32) < 0 ∨ cl2.slots.size ≤ ((0 : Int32)).toNatClampNeg) := own_inb (n := 8) (k := 0) Sz2 (by decide) (by decide)
  obtain ⟨T3, h3, X3, e3, W3, st3⟩ := stD X1 hx hZ e1 Ar2 (j := (0 : Int32)) hin2 (g := (mkF m 68 #[iv p0, iv p1, iv p2, iv p3, iv p4, iv p5, iv (own_n ii), iv (own_n jj), iv (own_n ki), iv (own_n kj), iv (own_n ko), .val (.double (own_e ko)), .second, .unset, .unset, .unset, .unset, .unset, .unset, .unset, .unset, .unset, .unset, .unset, .unset, .unset, .unset, .unset, .unset] [(.double (own_e ko)), (.int 0), (.ref b1), (.ref b1)])) rfl rfl (hb hby at_68)
  have N3 := Fr.snoc X3 N0 ge_b1
  have Z3 : n0 ≤ h3.size := Nat.le_trans Z1 (Nat.le_of_eq W3.size.symm)
  have K3 : Keep h0 h3 [] := K1.wr W3 (Or.inr sz_b1)
  have V3 : own_Ad Z h3 b1 8 (own_ud (fun _ => 0) 0 (own_e ko)) := own_arsetD (g := (fun _ => 0)) (k := 0) Ar2 qk2 Sz2 Ng2 Hs2 Gs2 W3 (by decide) (by decide)
  obtain ⟨kc4, cl4, Ar4, qk4, Sz4, Ng4, Hs4, Gs4⟩ := id V3
  have hin4 : ¬ ((1 : Int32) < 0 ∨ cl4.slots.size ≤ ((1 : Int32)).toNatClampNeg) := own_inb (n := 8) (k := 1) Sz4 (by decide) (by decide)
  obtain ⟨T5, h5, X5, e5, W5, st5⟩ := stD X3 hx hZ e3 Ar4 (j := (1 : Int32)) hin4 (g := (mkF m 73 #[iv p0, iv p1, iv p2, iv p3, iv p4, iv p5, iv (own_n ii), iv (own_n jj), iv (own_n ki), iv (own_n kj), iv (own_n ko), .val (.double (own_e ko)), .second, .unset, .unset, .unset, .unset, .unset, .unset, .unset, .unset, .unset, .unset, .unset, .unset, .unset, .unset, .unset, .unset] [(.double (own_e ko)), (.int 1), (.ref b1), (.ref b1)])) rfl rfl (hb hby at_73)
  have N5 := Fr.snoc X5 N3 ge_b1
  have Z5 : n0 ≤ h5.size := Nat.le_trans Z3 (Nat.le_of_eq W5.size.symm)
  have K5 : Keep h0 h5 [] := K3.wr W5 (Or.inr sz_b1)
  have V5 : own_Ad Z h5 b1 8 (own_ud (own_ud (fun _ => 0) 0 (own_e ko)) 1 (own_e ko)) := own_arsetD (g := (own_ud (fun _ => 0) 0 (own_e ko))) (k := 1) Ar4 qk4 Sz4 Ng4 Hs4 Gs4 W5 (by decide) (by decide)
  obtain ⟨kc6, cl6, Ar6, qk6, Sz6, Ng6, Hs6, Gs6⟩ := id V5
  have hin6 : ¬ ((2 : Int32) < 0 ∨ cl6.slots.size ≤ ((2 : Int32)).toNatClampNeg) := own_inb (n := 8) (k := 2) Sz6 (by decide) (by decide)
  obtain ⟨T7, h7, X7, e7, W7, st7⟩ := stD X5 hx hZ e5 Ar6 (j := (2 : Int32)) hin6 (g := (mkF m 78 #[iv p0, iv p1, iv p2, iv p3, iv p4, iv p5, iv (own_n ii), iv (own_n jj), iv (own_n ki), iv (own_n kj), iv (own_n ko), .val (.double (own_e ko)), .second, .unset, .unset, .unset, .unset, .unset, .unset, .unset, .unset, .unset, .unset, .unset, .unset, .unset, .unset, .unset, .unset] [(.double (own_e ko)), (.int 2), (.ref b1), (.ref b1)])) rfl rfl (hb hby at_78)
  have N7 := Fr.snoc X7 N5 ge_b1
  have Z7 : n0 ≤ h7.size := Nat.le_trans Z5 (Nat.le_of_eq W7.size.symm)
  have K7 : Keep h0 h7 [] := K5.wr W7 (Or.inr sz_b1)
  have V7 : own_Ad Z h7 b1 8 (own_ud (own_ud (own_ud (fun _ => 0) 0 (own_e ko)) 1 (own_e ko)) 2 (own_e ko)) := own_arsetD (g := (own_ud (own_ud (fun _ => 0) 0 (own_e ko)) 1 (own_e ko))) (k := 2) Ar6 qk6 Sz6 Ng6 Hs6 Gs6 W7 (by decide) (by decide)
  obtain ⟨kc8, cl8, Ar8, qk8, Sz8, Ng8, Hs8, Gs8⟩ := id V7
  have hin8 : ¬ ((3 : Int32) < 0 ∨ cl8.slots.size ≤ ((3 : Int32)).toNatClampNeg) := own_inb (n := 8) (k := 3) Sz8 (by decide) (by decide)
  obtain ⟨T9, h9, X9, e9, W9, st9⟩ := stD X7 hx hZ e7 Ar8 (j := (3 : Int32)) hin8 (g := (mkF m 83 #[iv p0, iv p1, iv p2, iv p3, iv p4, iv p5, iv (own_n ii), iv (own_n jj), iv (own_n ki), iv (own_n kj), iv (own_n ko), .val (.double (own_e ko)), .second, .unset, .unset, .unset, .unset, .unset, .unset, .unset, .unset, .unset, .unset, .unset, .unset, .unset, .unset, .unset, .unset] [(.double (own_e ko)), (.int 3), (.ref b1), (.ref b1)])) rfl rfl (hb hby at_83)
  have N9 := Fr.snoc X9 N7 ge_b1
  have Z9 : n0 ≤ h9.size := Nat.le_trans Z7 (Nat.le_of_eq W9.size.symm)
  have K9 : Keep h0 h9 [] := K7.wr W9 (Or.inr sz_b1)
  have V9 : own_Ad Z h9 b1 8 (own_ud (own_ud (own_ud (own_ud (fun _ => 0) 0 (own_e ko)) 1 (own_e ko)) 2 (own_e ko)) 3 (own_e ko)) := own_arsetD (g := (own_ud (own_ud (own_ud (fun _ => 0) 0 (own_e ko)) 1 (own_e ko)) 2 (own_e ko))) (k := 3) Ar8 qk8 Sz8 Ng8 Hs8 Gs8 W9 (by decide) (by decide)
  obtain ⟨kc10, cl10, Ar10, qk10, Sz10, Ng10, Hs10, Gs10⟩ := id V9
  have hin10 : ¬ ((4 : Int32) < 0 ∨ cl10.slots.size ≤ ((4 : Int32)).toNatClampNeg) := own_inb (n := 8) (k := 4) Sz10 (by decide) (by decide)
  obtain ⟨T11, h11, X11, e11, W11, st11⟩ := stD X9 hx hZ e9 Ar10 (j := (4 : Int32)) hin10 (g := (mkF m 88 #[iv p0, iv p1, iv p2, iv p3, iv p4, iv p5, iv (own_n ii), iv (own_n jj), iv (own_n ki), iv (own_n kj), iv (own_n ko), .val (.double (own_e ko)), .second, .unset, .unset, .unset, .unset, .unset, .unset, .unset, .unset, .unset, .unset, .unset, .unset, .unset, .unset, .unset, .unset] [(.double (own_e ko)), (.int 4), (.ref b1), (.ref b1)])) rfl rfl (hb hby at_88)
  have N11 := Fr.snoc X11 N9 ge_b1
  have Z11 : n0 ≤ h11.size := Nat.le_trans Z9 (Nat.le_of_eq W11.size.symm)
  have K11 : Keep h0 h11 [] := K9.wr W11 (Or.inr sz_b1)
  have V11 : own_Ad Z h11 b1 8 (own_ud (own_ud (own_ud (own_ud (own_ud (fun _ => 0) 0 (own_e ko)) 1 (own_e ko)) 2 (own_e ko)) 3 (own_e ko)) 4 (own_e ko)) := own_arsetD (g := (own_ud (own_ud (own_ud (own_ud (fun _ => 0) 0 (own_e ko)) 1 (own_e ko)) 2 (own_e ko)) 3 (own_e ko))) (k := 4) Ar10 qk10 Sz10 Ng10 Hs10 Gs10 W11 (by decide) (by decide)
  obtain ⟨kc12, cl12, Ar12, qk12, Sz12, Ng12, Hs12, Gs12⟩ := id V11
  have hin12 : ¬ ((5 : Int32) < 0 ∨ cl12.slots.size ≤ ((5 : Int32)).toNatClampNeg) := own_inb (n := 8) (k := 5) Sz12 (by decide) (by decide)
  obtain ⟨T13, h13, X13, e13, W13, st13⟩ := stD X11 hx hZ e11 Ar12 (j := (5 : Int32)) hin12 (g := (mkF m 93 #[iv p0, iv p1, iv p2, iv p3, iv p4, iv p5, iv (own_n ii), iv (own_n jj), iv (own_n ki), iv (own_n kj), iv (own_n ko), .val (.double (own_e ko)), .second, .unset, .unset, .unset, .unset, .unset, .unset, .unset, .unset, .unset, .unset, .unset, .unset, .unset, .unset, .unset, .unset] [(.double (own_e ko)), (.int 5), (.ref b1), (.ref b1)])) rfl rfl (hb hby at_93)
  have N13 := Fr.snoc X13 N11 ge_b1
  have Z13 : n0 ≤ h13.size := Nat.le_trans Z11 (Nat.le_of_eq W13.size.symm)
  have K13 : Keep h0 h13 [] := K11.wr W13 (Or.inr sz_b1)
  have V13 : own_Ad Z h13 b1 8 (own_ud (own_ud (own_ud (own_ud (own_ud (own_ud (fun _ => 0) 0 (own_e ko)) 1 (own_e ko)) 2 (own_e ko)) 3 (own_e ko)) 4 (own_e ko)) 5 (own_e ko)) := own_arsetD (g := (own_ud (own_ud (own_ud (own_ud (own_ud (fun _ => 0) 0 (own_e ko)) 1 (own_e ko)) 2 (own_e ko)) 3 (own_e ko)) 4 (own_e ko))) (k := 5) Ar12 qk12 Sz12 Ng12 Hs12 Gs12 W13 (by decide) (by decide)
  obtain ⟨kc14, cl14, Ar14, qk14, Sz14, Ng14, Hs14, Gs14⟩ := id V13
  have hin14 : ¬ ((6 : Int32) < 0 ∨ cl14.slots.size ≤ ((6 : Int32)).toNatClampNeg) := own_inb (n := 8) (k := 6) Sz14 (by decide) (by decide)
  obtain ⟨T15, h15, X15, e15, W15, st15⟩ := stD X13 hx hZ e13 Ar14 (j := (6 : Int32)) hin14 (g := (mkF m 99 #[iv p0, iv p1, iv p2, iv p3, iv p4, iv p5, iv (own_n ii), iv (own_n jj), iv (own_n ki), iv (own_n kj), iv (own_n ko), .val (.double (own_e ko)), .second, .unset, .unset, .unset, .unset, .unset, .unset, .unset, .unset, .unset, .unset, .unset, .unset, .unset, .unset, .unset, .unset] [(.double (own_e ko)), (.int 6), (.ref b1), (.ref b1)])) rfl rfl (hb hby at_99)
  have N15 := Fr.snoc X15 N13 ge_b1
  have Z15 : n0 ≤ h15.size := Nat.le_trans Z13 (Nat.le_of_eq W15.size.symm)
  have K15 : Keep h0 h15 [] := K13.wr W15 (Or.inr sz_b1)
  have V15 : own_Ad Z h15 b1 8 (own_ud (own_ud (own_ud (own_ud (own_ud (own_ud (own_ud (fun _ => 0) 0 (own_e ko)) 1 (own_e ko)) 2 (own_e ko)) 3 (own_e ko)) 4 (own_e ko)) 5 (own_e ko)) 6 (own_e ko)) := own_arsetD (g := (own_ud (own_ud (own_ud (own_ud (own_ud (own_ud (fun _ => 0) 0 (own_e ko)) 1 (own_e ko)) 2 (own_e ko)) 3 (own_e ko)) 4 (own_e ko)) 5 (own_e ko))) (k := 6) Ar14 qk14 Sz14 Ng14 Hs14 Gs14 W15 (by decide) (by decide)
  obtain ⟨kc16, cl16, Ar16, qk16, Sz16, Ng16, Hs16, Gs16⟩ := id V15
  have hin16 : ¬ ((7 : Int32) < 0 ∨ cl16.slots.size ≤ ((7 : Int32)).toNatClampNeg) := own_inb (n := 8) (k := 7) Sz16 (by decide) (by decide)
  obtain ⟨T17, h17, X17, e17, W17, st17⟩ := stD X15 hx hZ e15 Ar16 (j := (7 : Int32)) hin16 (g := (mkF m 105 #[iv p0, iv p1, iv p2, iv p3, iv p4, iv p5, iv (own_n ii), iv (own_n jj), iv (own_n ki), iv (own_n kj), iv (own_n ko), .val (.double (own_e ko)), .second, .unset, .unset, .unset, .unset, .unset, .unset, .unset, .unset, .unset, .unset, .unset, .unset, .unset, .unset, .unset, .unset] [(.double (own_e ko)), (.int 7), (.ref b1), (.ref b1)])) rfl rfl (hb hby at_105)
  have N17 := Fr.snoc X17 N15 ge_b1
  have Z17 : n0 ≤ h17.size := Nat.le_trans Z15 (Nat.le_of_eq W17.size.symm)
  have K17 : Keep h0 h17 [] := K15.wr W17 (Or.inr sz_b1)
  have V17 : own_Ad Z h17 b1 8 (own_ud (own_ud (own_ud (own_ud (own_ud (own_ud (own_ud (own_ud (fun _ => 0) 0 (own_e ko)) 1 (own_e ko)) 2 (own_e ko)) 3 (own_e ko)) 4 (own_e ko)) 5 (own_e ko)) 6 (own_e ko)) 7 (own_e ko)) := own_arsetD (g := (own_ud (own_ud (own_ud (own_ud (own_ud (own_ud (own_ud (fun _ => 0) 0 (own_e ko)) 1 (own_e ko)) 2 (own_e ko)) 3 (own_e ko)) 4 (own_e ko)) 5 (own_e ko)) 6 (own_e ko))) (k := 7) Ar16 qk16 Sz16 Ng16 Hs16 Gs16 W17 (by decide) (by decide)
  obtain ⟨kc18, cl18, Ar18, qk18, Sz18, Ng18, Hs18, Gs18⟩ := id V17
  have hin18 : ¬ ((own_n ii) < 0 ∨ cl18.slots.size ≤ ((own_n ii)).toNatClampNeg) := own_inb (n := 8) (k := ii) Sz18 (by decide) hii
  obtain ⟨T19, h19, X19, e19, W19, st19⟩ := stD X17 hx hZ e17 Ar18 (j := (own_n ii)) hin18 (g := (mkF m 119 #[iv p0, iv p1, iv p2, iv p3, iv p4, iv p5, iv (own_n ii), iv (own_n jj), iv (own_n ki), iv (own_n kj), iv (own_n ko), .val (.double (own_e ko)), .second, rv b1, .unset, .unset, .unset, .unset, .unset, .unset, .unset, .unset, .unset, .unset, .unset, .unset, .unset, .unset, .unset] [(.double (own_e ki)), (.int (own_n ii)), (.ref b1)])) rfl rfl (hb hby at_119)
  have N19 := Fr.snoc X19 N17 ge_b1
  have Z19 : n0 ≤ h19.size := Nat.le_trans Z17 (Nat.le_of_eq W19.size.symm)
  have K19 : Keep h0 h19 [] := K17.wr W19 (Or.inr sz_b1)
  have V19 : own_Ad Z h19 b1 8 (own_ud (own_ud (own_ud (own_ud (own_ud (own_ud (own_ud (own_ud (own_ud (fun _ => 0) 0 (own_e ko)) 1 (own_e ko)) 2 (own_e ko)) 3 (own_e ko)) 4 (own_e ko)) 5 (own_e ko)) 6 (own_e ko)) 7 (own_e ko)) ii (own_e ki)) := own_arsetD (g := (own_ud (own_ud (own_ud (own_ud (own_ud (own_ud (own_ud (own_ud (fun _ => 0) 0 (own_e ko)) 1 (own_e ko)) 2 (own_e ko)) 3 (own_e ko)) 4 (own_e ko)) 5 (own_e ko)) 6 (own_e ko)) 7 (own_e ko))) (k := ii) Ar18 qk18 Sz18 Ng18 Hs18 Gs18 W19 (by decide) hii
  obtain ⟨kc20, cl20, Ar20, qk20, Sz20, Ng20, Hs20, Gs20⟩ := id V19
  have hin20 : ¬ ((own_n jj) < 0 ∨ cl20.slots.size ≤ ((own_n jj)).toNatClampNeg) := own_inb (n := 8) (k := jj) Sz20 (by decide) hjj
  obtain ⟨T21, h21, X21, e21, W21, st21⟩ := stD X19 hx hZ e19 Ar20 (j := (own_n jj)) hin20 (g := (mkF m 131 #[iv p0, iv p1, iv p2, iv p3, iv p4, iv p5, iv (own_n ii), iv (own_n jj), iv (own_n ki), iv (own_n kj), iv (own_n ko), .val (.double (own_e ko)), .second, rv b1, .unset, .unset, .unset, .unset, .unset, .unset, .unset, .unset, .unset, .unset, .unset, .unset, .unset, .unset, .unset] [(.double (own_e kj)), (.int (own_n jj)), (.ref b1)])) rfl rfl (hb hby at_131)
  have N21 := Fr.snoc X21 N19 ge_b1
  have Z21 : n0 ≤ h21.size := Nat.le_trans Z19 (Nat.le_of_eq W21.size.symm)
  have K21 : Keep h0 h21 [] := K19.wr W21 (Or.inr sz_b1)
  have V21 : own_Ad Z h21 b1 8 (own_ud (own_ud (own_ud (own_ud (own_ud (own_ud (own_ud (own_ud (own_ud (own_ud (fun _ => 0) 0 (own_e ko)) 1 (own_e ko)) 2 (own_e ko)) 3 (own_e ko)) 4 (own_e ko)) 5 (own_e ko)) 6 (own_e ko)) 7 (own_e ko)) ii (own_e ki)) jj (own_e kj)) := own_arsetD (g := (own_ud (own_ud (own_ud (own_ud (own_ud (own_ud (own_ud (own_ud (own_ud (fun _ => 0) 0 (own_e ko)) 1 (own_e ko)) 2 (own_e ko)) 3 (own_e ko)) 4 (own_e ko)) 5 (own_e ko)) 6 (own_e ko)) 7 (own_e ko)) ii (own_e ki))) (k := jj) Ar20 qk20 Sz20 Ng20 Hs20 Gs20 W21 (by decide) hjj
  obtain ⟨T22, h22, X22, e22, E22, A22, D22, -, st22⟩ := newO X21 hx hZ hown (hw _ (own_w 3 rfl)) (hw _ (own_w 4 rfl)) (hw _ (own_w 5 rfl)) e21 (g := (mkF m 162 #[iv p0, iv p1, iv p2, iv p3, iv p4, iv p5, iv (own_n ii), iv (own_n jj), iv (own_n ki), iv (own_n kj), iv (own_n ko), .val (.double (own_e ko)), .second, rv b1, iv (own_n t00), iv (own_n t01), iv (own_n t10), iv (own_n t11), .unset, .unset, .unset, .unset, .unset, .unset, .unset, .unset, .unset, .unset, .unset] [])) rfl (hb hby at_162) (by decide) (by decide)
  obtain ⟨b22, g22⟩ : ∃ z, z = h21.size := ⟨_, rfl⟩
  rw [← g22] at A22 D22 st22
  have ne_b1_b22 : b1 ≠ b22 := Nat.ne_of_lt (Nat.lt_of_lt_of_le V21.lt (Nat.le_of_eq g22.symm))
  have ge_b22 : n0 ≤ b22 := Nat.le_trans Z21 (Nat.le_of_eq g22.symm)
  have sz_b22 : h0.size ≤ b22 := Nat.le_trans K21.1 (Nat.le_of_eq g22.symm)
  have Z22 : n0 ≤ h22.size := Nat.le_trans Z21 E22.1
  have K22 : Keep h0 h22 [] := K21.ext E22
  have F22_variable : Fld Z h22 b22 "com/example/prolong/prolong/tree/DecisionDiagram" "variable" "[I" .null := D22 (Or.inl (hw _ (own_w 14 rfl))) (ty := (.array .int)) (by decide)
  have F22_low : Fld Z h22 b22 "com/example/prolong/prolong/tree/DecisionDiagram" "low" "[I" .null := D22 (Or.inl (hw _ (own_w 16 rfl))) (ty := (.array .int)) (by decide)
  have F22_high : Fld Z h22 b22 "com/example/prolong/prolong/tree/DecisionDiagram" "high" "[I" .null := D22 (Or.inl (hw _ (own_w 18 rfl))) (ty := (.array .int)) (by decide)
  have F22_unique : Fld Z h22 b22 "com/example/prolong/prolong/tree/DecisionDiagram" "unique" "[I" .null := D22 (Or.inl (hw _ (own_w 27 rfl))) (ty := (.array .int)) (by decide)
  have F22_cachedIf : Fld Z h22 b22 "com/example/prolong/prolong/tree/DecisionDiagram" "cachedIf" "[I" .null := D22 (Or.inl (hw _ (own_w 29 rfl))) (ty := (.array .int)) (by decide)
  have F22_cachedThen : Fld Z h22 b22 "com/example/prolong/prolong/tree/DecisionDiagram" "cachedThen" "[I" .null := D22 (Or.inl (hw _ (own_w 31 rfl))) (ty := (.array .int)) (by decide)
  have F22_cachedElse : Fld Z h22 b22 "com/example/prolong/prolong/tree/DecisionDiagram" "cachedElse" "[I" .null := D22 (Or.inl (hw _ (own_w 33 rfl))) (ty := (.array .int)) (by decide)
  have F22_cachedResult : Fld Z h22 b22 "com/example/prolong/prolong/tree/DecisionDiagram" "cachedResult" "[I" .null := D22 (Or.inl (hw _ (own_w 35 rfl))) (ty := (.array .int)) (by decide)
  have F22_size : Fld Z h22 b22 "com/example/prolong/prolong/tree/DecisionDiagram" "size" "I" (.int 0) := D22 (Or.inl (hw _ (own_w 38 rfl))) (ty := .int) (by decide)
  obtain ⟨_, T23, Lc23, X23, hQ23, st23⟩ := own_special (W := 1) (y := mN2) X22 hx hZ rfl hown (hw _ (own_w 6 rfl)) (hw _ (own_w 7 rfl)) (hw _ (own_w 8 rfl)) (hw _ (own_w 5 rfl)) (by decide) (rmInit l Z av0 hw [] b22 h22 n0 Z22 A22 ge_b22 F22_size F22_variable F22_low F22_high F22_unique F22_cachedIf F22_cachedThen F22_cachedElse F22_cachedResult) (by decide) (by decide) (g := (mkF m 166 #[iv p0, iv p1, iv p2, iv p3, iv p4, iv p5, iv (own_n ii), iv (own_n jj), iv (own_n ki), iv (own_n kj), iv (own_n ko), .val (.double (own_e ko)), .second, rv b1, iv (own_n t00), iv (own_n t01), iv (own_n t10), iv (own_n t11), .unset, .unset, .unset, .unset, .unset, .unset, .unset, .unset, .unset, .unset, .unset] [(.ref b22), (.ref b22)])) rfl (by rw [hml]; rfl) (a := b22) (argsL := []) (rest := [(.ref b22)]) (lenOf pd__V rfl) rfl (hb hby at_166) rfl e22 (by decide : 2 + 8 ≤ _) (by decide : 17 + 9216 ≤ _)
  obtain ⟨d23av, d23al, d23ah, d23au, d23qa, d23qb, d23qc, d23qd, rfl, N23q, K23, gq23, S23, D23⟩ := hQ23
  have N23 := Fr.app N21 N23q
  have e23 : T23.heap = T23.heap := rfl
  have f24 := (V21.ext E22)
  have ne_b1_d23av : b1 ≠ d23av := Nat.ne_of_lt (Nat.lt_of_lt_of_le f24.lt (gq23 _ (List.mem_of_getElem? (i := 0) rfl)))
  have ne_b22_d23av : b22 ≠ d23av := Nat.ne_of_lt (Nat.lt_of_lt_of_le A22.lt (gq23 _ (List.mem_of_getElem? (i := 0) rfl)))
  have ge_d23av : n0 ≤ d23av := Nat.le_trans Z22 (gq23 _ (List.mem_of_getElem? (i := 0) rfl))
  have sz_d23av : h0.size ≤ d23av := Nat.le_trans K22.1 (gq23 _ (List.mem_of_getElem? (i := 0) rfl))
  have ne_b1_d23al : b1 ≠ d23al := Nat.ne_of_lt (Nat.lt_of_lt_of_le f24.lt (gq23 _ (List.mem_of_getElem? (i := 1) rfl)))
  have ne_b22_d23al : b22 ≠ d23al := Nat.ne_of_lt (Nat.lt_of_lt_of_le A22.lt (gq23 _ (List.mem_of_getElem? (i := 1) rfl)))
  have ge_d23al : n0 ≤ d23al := Nat.le_trans Z22 (gq23 _ (List.mem_of_getElem? (i := 1) rfl))
  have sz_d23al : h0.size ≤ d23al := Nat.le_trans K22.1 (gq23 _ (List.mem_of_getElem? (i := 1) rfl))
  have ne_b1_d23ah : b1 ≠ d23ah := Nat.ne_of_lt (Nat.lt_of_lt_of_le f24.lt (gq23 _ (List.mem_of_getElem? (i := 2) rfl)))
  have ne_b22_d23ah : b22 ≠ d23ah := Nat.ne_of_lt (Nat.lt_of_lt_of_le A22.lt (gq23 _ (List.mem_of_getElem? (i := 2) rfl)))
  have ge_d23ah : n0 ≤ d23ah := Nat.le_trans Z22 (gq23 _ (List.mem_of_getElem? (i := 2) rfl))
  have sz_d23ah : h0.size ≤ d23ah := Nat.le_trans K22.1 (gq23 _ (List.mem_of_getElem? (i := 2) rfl))
  have ne_b1_d23au : b1 ≠ d23au := Nat.ne_of_lt (Nat.lt_of_lt_of_le f24.lt (gq23 _ (List.mem_of_getElem? (i := 3) rfl)))
  have ne_b22_d23au : b22 ≠ d23au := Nat.ne_of_lt (Nat.lt_of_lt_of_le A22.lt (gq23 _ (List.mem_of_getElem? (i := 3) rfl)))
  have ge_d23au : n0 ≤ d23au := Nat.le_trans Z22 (gq23 _ (List.mem_of_getElem? (i := 3) rfl))
  have sz_d23au : h0.size ≤ d23au := Nat.le_trans K22.1 (gq23 _ (List.mem_of_getElem? (i := 3) rfl))
  have ne_b1_d23qa : b1 ≠ d23qa := Nat.ne_of_lt (Nat.lt_of_lt_of_le f24.lt (gq23 _ (List.mem_of_getElem? (i := 4) rfl)))
  have ne_b22_d23qa : b22 ≠ d23qa := Nat.ne_of_lt (Nat.lt_of_lt_of_le A22.lt (gq23 _ (List.mem_of_getElem? (i := 4) rfl)))
  have ge_d23qa : n0 ≤ d23qa := Nat.le_trans Z22 (gq23 _ (List.mem_of_getElem? (i := 4) rfl))
  have sz_d23qa : h0.size ≤ d23qa := Nat.le_trans K22.1 (gq23 _ (List.mem_of_getElem? (i := 4) rfl))
  have ne_b1_d23qb : b1 ≠ d23qb := Nat.ne_of_lt (Nat.lt_of_lt_of_le f24.lt (gq23 _ (List.mem_of_getElem? (i := 5) rfl)))
  have ne_b22_d23qb : b22 ≠ d23qb := Nat.ne_of_lt (Nat.lt_of_lt_of_le A22.lt (gq23 _ (List.mem_of_getElem? (i := 5) rfl)))
  have ge_d23qb : n0 ≤ d23qb := Nat.le_trans Z22 (gq23 _ (List.mem_of_getElem? (i := 5) rfl))
  have sz_d23qb : h0.size ≤ d23qb := Nat.le_trans K22.1 (gq23 _ (List.mem_of_getElem? (i := 5) rfl))
  have ne_b1_d23qc : b1 ≠ d23qc := Nat.ne_of_lt (Nat.lt_of_lt_of_le f24.lt (gq23 _ (List.mem_of_getElem? (i := 6) rfl)))
  have ne_b22_d23qc : b22 ≠ d23qc := Nat.ne_of_lt (Nat.lt_of_lt_of_le A22.lt (gq23 _ (List.mem_of_getElem? (i := 6) rfl)))
  have ge_d23qc : n0 ≤ d23qc := Nat.le_trans Z22 (gq23 _ (List.mem_of_getElem? (i := 6) rfl))
  have sz_d23qc : h0.size ≤ d23qc := Nat.le_trans K22.1 (gq23 _ (List.mem_of_getElem? (i := 6) rfl))
  have ne_b1_d23qd : b1 ≠ d23qd := Nat.ne_of_lt (Nat.lt_of_lt_of_le f24.lt (gq23 _ (List.mem_of_getElem? (i := 7) rfl)))
  have ne_b22_d23qd : b22 ≠ d23qd := Nat.ne_of_lt (Nat.lt_of_lt_of_le A22.lt (gq23 _ (List.mem_of_getElem? (i := 7) rfl)))
  have ge_d23qd : n0 ≤ d23qd := Nat.le_trans Z22 (gq23 _ (List.mem_of_getElem? (i := 7) rfl))
  have sz_d23qd : h0.size ≤ d23qd := Nat.le_trans K22.1 (gq23 _ (List.mem_of_getElem? (i := 7) rfl))
  have Zk23 : n0 ≤ T23.heap.size := Nat.le_trans Z22 K23.1
  have Kk23 : Keep h0 T23.heap [] := K22.trans K23 (allS (Or.inr sz_b22) all0)
  have hn1 : ¬ own_n ii = own_n jj := own_nne (by omega) (by omega) hne
  obtain ⟨_, T25, Lc25, X25, hQ25, st25⟩ := own_virtual (W := 0) (y := mN5) (z := mN5) X23 hx hZ hown (hw _ (own_w 39 rfl)) (hw _ (own_w 40 rfl)) (notFace_of_selects (args := #[]) (mvT hZ (hw _ (own_w 42 rfl)))) (hw _ (own_w 42 rfl)) (hw _ (own_w 41 rfl)) (hw _ (own_w 43 rfl)) (hw _ (own_w 5 rfl)) (by decide) (rmVar l Z av0 hw [] b22 d23av d23al d23ah d23au d23qa d23qb d23qc d23qd (own_up (own_up (fun _ => 0) 0 (2147483647 : Int32)) 1 (2147483647 : Int32)) (fun _ => 0) (fun _ => 0) (fun _ => -1) (fun _ => -1) (fun _ => 0) (fun _ => 0) (fun _ => 0) 2 (own_n ii) T23.heap n0 Zk23 D23 S23 own_UI0 (by decide) (by decide) (own_nge (by omega)) (fun q => absurd (congrArg Int32.toInt q) (by rw [own_nI (by omega), show (2147483647 : Int32).toInt = 2147483647 from rfl]; omega)) (fun n h1 h2 => absurd h2 (by omega))) (by decide) (by decide) D23.E (g := (mkF m 175 #[iv p0, iv p1, iv p2, iv p3, iv p4, iv p5, iv (own_n ii), iv (own_n jj), iv (own_n ki), iv (own_n kj), iv (own_n ko), .val (.double (own_e ko)), .second, rv b1, iv (own_n t00), iv (own_n t01), iv (own_n t10), iv (own_n t11), rv b22, .unset, .unset, .unset, .unset, .unset, .unset, .unset, .unset, .unset, .unset] [(.int (own_n ii)), (.ref b22)])) rfl (by rw [hml]; rfl) (argsL := [(.int (own_n ii))]) (rest := []) (lenOf pd__I_I rfl) rfl (hb hby at_175) rfl e23 (by decide : 10 + 0 ≤ _) (by decide : 9233 + 0 ≤ _)
  obtain ⟨k25, hk25, rfl, N25q, K25, U25, D25⟩ := hQ25
  have N25 := Fr.app N23 N25q
  have e25 : T25.heap = T25.heap := rfl
  have f26 := (f24.keep K23 (ninS ne_b1_b22 nin0))
  have Zk25 : n0 ≤ T25.heap.size := Nat.le_trans Zk23 K25.1
  have Kk25 : Keep h0 T25.heap [] := Kk23.trans K25 (allS (Or.inr sz_b22) (allS (Or.inr sz_d23av) (allS (Or.inr sz_d23al) (allS (Or.inr sz_d23ah) (allS (Or.inr sz_d23au) (allS (Or.inr sz_d23qa) (allS (Or.inr sz_d23qb) (allS (Or.inr sz_d23qc) (allS (Or.inr sz_d23qd) all0)))))))))
  have B25 := f26.keep K25 (ninS ne_b1_b22 (ninS ne_b1_d23av (ninS ne_b1_d23al (ninS ne_b1_d23ah (ninS ne_b1_d23au (ninS ne_b1_d23qa (ninS ne_b1_d23qb (ninS ne_b1_d23qc (ninS ne_b1_d23qd nin0)))))))))
  obtain ⟨_, T27, Lc27, X27, hQ27, st27⟩ := own_virtual (W := 0) (y := mN5) (z := mN5) X25 hx hZ hown (hw _ (own_w 39 rfl)) (hw _ (own_w 40 rfl)) (notFace_of_selects (args := #[]) (mvT hZ (hw _ (own_w 42 rfl)))) (hw _ (own_w 42 rfl)) (hw _ (own_w 41 rfl)) (hw _ (own_w 43 rfl)) (hw _ (own_w 5 rfl)) (by decide) (rmVar l Z av0 hw [] b22 d23av d23al d23ah d23au d23qa d23qb d23qc d23qd (own_up (own_up (own_up (fun _ => 0) 0 (2147483647 : Int32)) 1 (2147483647 : Int32)) 2 (own_n ii)) (own_up (fun _ => 0) 2 (0 : Int32)) (own_up (fun _ => 0) 2 (1 : Int32)) (own_up (fun _ => -1) k25 (2 : Int32)) (fun _ => -1) (fun _ => 0) (fun _ => 0) (fun _ => 0) 3 (own_n jj) T25.heap n0 Zk25 D25 S23 U25 (by decide) (by decide) (own_nge (by omega)) (fun q => absurd (congrArg Int32.toInt q) (by rw [own_nI (by omega), show (2147483647 : Int32).toInt = 2147483647 from rfl]; omega)) (fun n h1 h2 => by
    obtain rfl : n = 2 := by omega
    simp [own_up, hn1])) (by decide) (by decide) D25.E (g := (mkF m 184 #[iv p0, iv p1, iv p2, iv p3, iv p4, iv p5, iv (own_n ii), iv (own_n jj), iv (own_n ki), iv (own_n kj), iv (own_n ko), .val (.double (own_e ko)), .second, rv b1, iv (own_n t00), iv (own_n t01), iv (own_n t10), iv (own_n t11), rv b22, iv 2, .unset, .unset, .unset, .unset, .unset, .unset, .unset, .unset, .unset] [(.int (own_n jj)), (.ref b22)])) rfl (by rw [hml]; rfl) (argsL := [(.int (own_n jj))]) (rest := []) (lenOf pd__I_I rfl) rfl (hb hby at_184) rfl e25 (by decide : 10 + 0 ≤ _) (by decide : 9233 + 0 ≤ _)
  obtain ⟨k27, hk27, rfl, N27q, K27, U27, D27⟩ := hQ27
  have N27 := Fr.app N25 N27q
  have e27 : T27.heap = T27.heap := rfl
  have Zk27 : n0 ≤ T27.heap.size := Nat.le_trans Zk25 K27.1
  have Kk27 : Keep h0 T27.heap [] := Kk25.trans K27 (allS (Or.inr sz_b22) (allS (Or.inr sz_d23av) (allS (Or.inr sz_d23al) (allS (Or.inr sz_d23ah) (allS (Or.inr sz_d23au) (allS (Or.inr sz_d23qa) (allS (Or.inr sz_d23qb) (allS (Or.inr sz_d23qc) (allS (Or.inr sz_d23qd) all0)))))))))
  have B27 := B25.keep K27 (ninS ne_b1_b22 (ninS ne_b1_d23av (ninS ne_b1_d23al (ninS ne_b1_d23ah (ninS ne_b1_d23au (ninS ne_b1_d23qa (ninS ne_b1_d23qb (ninS ne_b1_d23qc (ninS ne_b1_d23qd nin0)))))))))
  obtain ⟨_, T28, Lc28, X28, hQ28, st28⟩ := own_callS (W := 2) (y := mN18) X27 hx hZ hown (hw _ (own_w 53 rfl)) (hw _ (own_w 54 rfl)) (hw _ (own_w 55 rfl)) (hw _ (own_w 56 rfl)) (by decide) (rmLeaf l Z av0 hw [] t01 T27.heap n0 Zk27 b01) (by decide) (by decide) (g := (mkF m 195 #[iv p0, iv p1, iv p2, iv p3, iv p4, iv p5, iv (own_n ii), iv (own_n jj), iv (own_n ki), iv (own_n kj), iv (own_n ko), .val (.double (own_e ko)), .second, rv b1, iv (own_n t00), iv (own_n t01), iv (own_n t10), iv (own_n t11), rv b22, iv 2, iv 3, .unset, .unset, .unset, .unset, .unset, .unset, .unset, .unset] [(.int (own_n t01)), (.int 3), (.ref b22)])) rfl (by rw [hml]; rfl) (argsL := [(.int (own_n t01))]) (rest := [(.int 3), (.ref b22)]) (lenOf pd__I_I rfl) rfl (hb hby at_195) rfl e27 (by decide : 10 + 0 ≤ _) (by decide : 9233 + 0 ≤ _)
  obtain ⟨rfl, N28q, hh28⟩ := hQ28
  have N28 := Fr.app N27 N28q
  have e28 : T28.heap = T27.heap := hh28
  obtain ⟨_, T29, Lc29, X29, hQ29, st29⟩ := own_callS (W := 3) (y := mN18) X28 hx hZ hown (hw _ (own_w 53 rfl)) (hw _ (own_w 54 rfl)) (hw _ (own_w 55 rfl)) (hw _ (own_w 56 rfl)) (by decide) (rmLeaf l Z av0 hw [] t00 T27.heap n0 Zk27 b00) (by decide) (by decide) (g := (mkF m 200 #[iv p0, iv p1, iv p2, iv p3, iv p4, iv p5, iv (own_n ii), iv (own_n jj), iv (own_n ki), iv (own_n kj), iv (own_n ko), .val (.double (own_e ko)), .second, rv b1, iv (own_n t00), iv (own_n t01), iv (own_n t10), iv (own_n t11), rv b22, iv 2, iv 3, .unset, .unset, .unset, .unset, .unset, .unset, .unset, .unset] [(.int (own_n t00)), (.int (own_n t01)), (.int 3), (.ref b22)])) rfl (by rw [hml]; rfl) (argsL := [(.int (own_n t00))]) (rest := [(.int (own_n t01)), (.int 3), (.ref b22)]) (lenOf pd__I_I rfl) rfl (hb hby at_200) rfl e28 (by decide : 10 + 0 ≤ _) (by decide : 9233 + 0 ≤ _)
  obtain ⟨rfl, N29q, hh29⟩ := hQ29
  have N29 := Fr.app N28 N29q
  have e29 : T29.heap = T27.heap := hh29
  obtain ⟨_, T30, Lc30, X30, hQ30, st30⟩ := own_virtual (W := 0) (y := mN15) (z := mN15) X29 hx hZ hown (hw _ (own_w 57 rfl)) (hw _ (own_w 58 rfl)) (notFace_of_selects (args := #[]) (mvT hZ (hw _ (own_w 60 rfl)))) (hw _ (own_w 60 rfl)) (hw _ (own_w 59 rfl)) (hw _ (own_w 61 rfl)) (hw _ (own_w 5 rfl)) (by decide) (own_ite3 l Z av0 hw [] b22 d23av d23al d23ah d23au d23qa d23qb d23qc d23qd ii jj t01 t00 false T27.heap n0 Zk27 S23 (show own_S Z T27.heap b22 d23av d23al d23ah d23au d23qa d23qb d23qc d23qd ii jj false from ⟨_, _, _, _, _, D27, U27, fun _ => rfl⟩) hii hjj hne b01 b00) (by decide) (by decide) D27.E (g := (mkF m 203 #[iv p0, iv p1, iv p2, iv p3, iv p4, iv p5, iv (own_n ii), iv (own_n jj), iv (own_n ki), iv (own_n kj), iv (own_n ko), .val (.double (own_e ko)), .second, rv b1, iv (own_n t00), iv (own_n t01), iv (own_n t10), iv (own_n t11), rv b22, iv 2, iv 3, .unset, .unset, .unset, .unset, .unset, .unset, .unset, .unset] [(.int (own_n t00)), (.int (own_n t01)), (.int 3), (.ref b22)])) rfl (by rw [hml]; rfl) (argsL := [(.int 3), (.int (own_n t01)), (.int (own_n t00))]) (rest := []) (lenOf pd__III_I rfl) rfl (hb hby at_203) rfl e29 (by decide : 10 + 7 ≤ _) (by decide : 9233 + 103 ≤ _)
  obtain ⟨rfl, N30q, K30, St30⟩ := hQ30
  have N30 := Fr.app N29 N30q
  have e30 : T30.heap = T30.heap := rfl
  have Zk30 : n0 ≤ T30.heap.size := Nat.le_trans Zk27 K30.1
  have Kk30 : Keep h0 T30.heap [] := Kk27.trans K30 (allS (Or.inr sz_b22) (allS (Or.inr sz_d23av) (allS (Or.inr sz_d23al) (allS (Or.inr sz_d23ah) (allS (Or.inr sz_d23au) (allS (Or.inr sz_d23qa) (allS (Or.inr sz_d23qb) (allS (Or.inr sz_d23qc) (allS (Or.inr sz_d23qd) all0)))))))))
  have B30 := B27.keep K30 (ninS ne_b1_b22 (ninS ne_b1_d23av (ninS ne_b1_d23al (ninS ne_b1_d23ah (ninS ne_b1_d23au (ninS ne_b1_d23qa (ninS ne_b1_d23qb (ninS ne_b1_d23qc (ninS ne_b1_d23qd nin0)))))))))
  have Ex30 := D27.E.keep K30
  obtain ⟨_, T31, Lc31, X31, hQ31, st31⟩ := own_callS (W := 2) (y := mN18) X30 hx hZ hown (hw _ (own_w 53 rfl)) (hw _ (own_w 54 rfl)) (hw _ (own_w 55 rfl)) (hw _ (own_w 56 rfl)) (by decide) (rmLeaf l Z av0 hw [] t11 T30.heap n0 Zk30 b11) (by decide) (by decide) (g := (mkF m 214 #[iv p0, iv p1, iv p2, iv p3, iv p4, iv p5, iv (own_n ii), iv (own_n jj), iv (own_n ki), iv (own_n kj), iv (own_n ko), .val (.double (own_e ko)), .second, rv b1, iv (own_n t00), iv (own_n t01), iv (own_n t10), iv (own_n t11), rv b22, iv 2, iv 3, iv ((own_n (own_r t01 t00))), .unset, .unset, .unset, .unset, .unset, .unset, .unset] [(.int (own_n t11)), (.int 3), (.ref b22)])) rfl (by rw [hml]; rfl) (argsL := [(.int (own_n t11))]) (rest := [(.int 3), (.ref b22)]) (lenOf pd__I_I rfl) rfl (hb hby at_214) rfl e30 (by decide : 17 + 0 ≤ _) (by decide : 9336 + 0 ≤ _)
  obtain ⟨rfl, N31q, hh31⟩ := hQ31
  have N31 := Fr.app N30 N31q
  have e31 : T31.heap = T30.heap := hh31
  obtain ⟨_, T32, Lc32, X32, hQ32, st32⟩ := own_callS (W := 3) (y := mN18) X31 hx hZ hown (hw _ (own_w 53 rfl)) (hw _ (own_w 54 rfl)) (hw _ (own_w 55 rfl)) (hw _ (own_w 56 rfl)) (by decide) (rmLeaf l Z av0 hw [] t10 T30.heap n0 Zk30 b10) (by decide) (by decide) (g := (mkF m 219 #[iv p0, iv p1, iv p2, iv p3, iv p4, iv p5, iv (own_n ii), iv (own_n jj), iv (own_n ki), iv (own_n kj), iv (own_n ko), .val (.double (own_e ko)), .second, rv b1, iv (own_n t00), iv (own_n t01), iv (own_n t10), iv (own_n t11), rv b22, iv 2, iv 3, iv ((own_n (own_r t01 t00))), .unset, .unset, .unset, .unset, .unset, .unset, .unset] [(.int (own_n t10)), (.int (own_n t11)), (.int 3), (.ref b22)])) rfl (by rw [hml]; rfl) (argsL := [(.int (own_n t10))]) (rest := [(.int (own_n t11)), (.int 3), (.ref b22)]) (lenOf pd__I_I rfl) rfl (hb hby at_219) rfl e31 (by decide : 17 + 0 ≤ _) (by decide : 9336 + 0 ≤ _)
  obtain ⟨rfl, N32q, hh32⟩ := hQ32
  have N32 := Fr.app N31 N32q
  have e32 : T32.heap = T30.heap := hh32
  obtain ⟨_, T33, Lc33, X33, hQ33, st33⟩ := own_virtual (W := 0) (y := mN15) (z := mN15) X32 hx hZ hown (hw _ (own_w 57 rfl)) (hw _ (own_w 58 rfl)) (notFace_of_selects (args := #[]) (mvT hZ (hw _ (own_w 60 rfl)))) (hw _ (own_w 60 rfl)) (hw _ (own_w 59 rfl)) (hw _ (own_w 61 rfl)) (hw _ (own_w 5 rfl)) (by decide) (own_ite3 l Z av0 hw [] b22 d23av d23al d23ah d23au d23qa d23qb d23qc d23qd ii jj t11 t10 (false || (decide (t01 = 0) && decide (t00 = 1))) T30.heap n0 Zk30 S23 St30 hii hjj hne b11 b10) (by decide) (by decide) Ex30 (g := (mkF m 222 #[iv p0, iv p1, iv p2, iv p3, iv p4, iv p5, iv (own_n ii), iv (own_n jj), iv (own_n ki), iv (own_n kj), iv (own_n ko), .val (.double (own_e ko)), .second, rv b1, iv (own_n t00), iv (own_n t01), iv (own_n t10), iv (own_n t11), rv b22, iv 2, iv 3, iv ((own_n (own_r t01 t00))), .unset, .unset, .unset, .unset, .unset, .unset, .unset] [(.int (own_n t10)), (.int (own_n t11)), (.int 3), (.ref b22)])) rfl (by rw [hml]; rfl) (argsL := [(.int 3), (.int (own_n t11)), (.int (own_n t10))]) (rest := []) (lenOf pd__III_I rfl) rfl (hb hby at_222) rfl e32 (by decide : 17 + 7 ≤ _) (by decide : 9336 + 103 ≤ _)
  obtain ⟨rfl, N33q, K33, St33⟩ := hQ33
  have N33 := Fr.app N32 N33q
  have e33 : T33.heap = T33.heap := rfl
  have Zk33 : n0 ≤ T33.heap.size := Nat.le_trans Zk30 K33.1
  have Kk33 : Keep h0 T33.heap [] := Kk30.trans K33 (allS (Or.inr sz_b22) (allS (Or.inr sz_d23av) (allS (Or.inr sz_d23al) (allS (Or.inr sz_d23ah) (allS (Or.inr sz_d23au) (allS (Or.inr sz_d23qa) (allS (Or.inr sz_d23qb) (allS (Or.inr sz_d23qc) (allS (Or.inr sz_d23qd) all0)))))))))
  have B33 := B30.keep K33 (ninS ne_b1_b22 (ninS ne_b1_d23av (ninS ne_b1_d23al (ninS ne_b1_d23ah (ninS ne_b1_d23au (ninS ne_b1_d23qa (ninS ne_b1_d23qb (ninS ne_b1_d23qc (ninS ne_b1_d23qd nin0)))))))))
  have Ex33 := Ex30.keep K33
  obtain ⟨_, T34, Lc34, X34, hQ34, st34⟩ := own_virtual (W := 0) (y := mN15) (z := mN15) X33 hx hZ hown (hw _ (own_w 57 rfl)) (hw _ (own_w 58 rfl)) (notFace_of_selects (args := #[]) (mvT hZ (hw _ (own_w 60 rfl)))) (hw _ (own_w 60 rfl)) (hw _ (own_w 59 rfl)) (hw _ (own_w 61 rfl)) (hw _ (own_w 5 rfl)) (by decide) (own_iteF l Z av0 hw [] b22 d23av d23al d23ah d23au d23qa d23qb d23qc d23qd ii jj (own_ud (own_ud (own_ud (own_ud (own_ud (own_ud (own_ud (own_ud (own_ud (own_ud (fun _ => 0) 0 (own_e ko)) 1 (own_e ko)) 2 (own_e ko)) 3 (own_e ko)) 4 (own_e ko)) 5 (own_e ko)) 6 (own_e ko)) 7 (own_e ko)) ii (own_e ki)) jj (own_e kj)) (own_kk ii jj ki kj) ki kj t00 t01 t10 t11 T33.heap n0 Zk33 S23 St33 hii hjj hne (if_pos rfl) ((if_neg (fun q => hne q.symm)).trans (if_pos rfl)) (by omega) (by omega) (by omega) (by omega) (show Own.own_D 3 (ki : Int) ((own_ud (own_ud (own_ud (own_ud (own_ud (own_ud (own_ud (own_ud (own_ud (own_ud (fun _ => 0) 0 (own_e ko)) 1 (own_e ko)) 2 (own_e ko)) 3 (own_e ko)) 4 (own_e ko)) 5 (own_e ko)) 6 (own_e ko)) 7 (own_e ko)) ii (own_e ki)) jj (own_e kj)) ii) from by rw [show (own_ud (own_ud (own_ud (own_ud (own_ud (own_ud (own_ud (own_ud (own_ud (own_ud (fun _ => 0) 0 (own_e ko)) 1 (own_e ko)) 2 (own_e ko)) 3 (own_e ko)) 4 (own_e ko)) 5 (own_e ko)) 6 (own_e ko)) 7 (own_e ko)) ii (own_e ki)) jj (own_e kj)) ii = own_e ki from by simp [own_ud, hne]]; exact own_eD (by omega)) (show Own.own_D 3 (kj : Int) ((own_ud (own_ud (own_ud (own_ud (own_ud (own_ud (own_ud (own_ud (own_ud (own_ud (fun _ => 0) 0 (own_e ko)) 1 (own_e ko)) 2 (own_e ko)) 3 (own_e ko)) 4 (own_e ko)) 5 (own_e ko)) 6 (own_e ko)) 7 (own_e ko)) ii (own_e ki)) jj (own_e kj)) jj) from by rw [show (own_ud (own_ud (own_ud (own_ud (own_ud (own_ud (own_ud (own_ud (own_ud (own_ud (fun _ => 0) 0 (own_e ko)) 1 (own_e ko)) 2 (own_e ko)) 3 (own_e ko)) 4 (own_e ko)) 5 (own_e ko)) 6 (own_e ko)) 7 (own_e ko)) ii (own_e ki)) jj (own_e kj)) jj = own_e kj from by simp [own_ud]]; exact own_eD (by omega)) b00 b01 b10 b11) (by decide) (by decide) Ex33 (g := (mkF m 235 #[iv p0, iv p1, iv p2, iv p3, iv p4, iv p5, iv (own_n ii), iv (own_n jj), iv (own_n ki), iv (own_n kj), iv (own_n ko), .val (.double (own_e ko)), .second, rv b1, iv (own_n t00), iv (own_n t01), iv (own_n t10), iv (own_n t11), rv b22, iv 2, iv 3, iv ((own_n (own_r t01 t00))), iv ((own_n (own_r t11 t10))), .unset, .unset, .unset, .unset, .unset, .unset] [(.int (own_n (own_r t01 t00))), (.int (own_n (own_r t11 t10))), (.int 2), (.ref b22)])) rfl (by rw [hml]; rfl) (argsL := [(.int 2), (.int (own_n (own_r t11 t10))), (.int (own_n (own_r t01 t00)))]) (rest := []) (lenOf pd__III_I rfl) rfl (hb hby at_235) rfl e33 (by decide : 24 + 7 ≤ _) (by decide : 9439 + 103 ≤ _)
  obtain ⟨r34, W34, v34vr, v34lw, v34hg, v34uq, v34c1, v34c2, v34c3, v34c4, sz34, rfl, N34q, K34, hr34, D34, hW34, hm34⟩ := hQ34
  have N34 := Fr.app N33 N34q
  have e34 : T34.heap = T34.heap := rfl
  have Zk34 : n0 ≤ T34.heap.size := Nat.le_trans Zk33 K34.1
  have Kk34 : Keep h0 T34.heap [] := Kk33.trans K34 (allS (Or.inr sz_b22) (allS (Or.inr sz_d23av) (allS (Or.inr sz_d23al) (allS (Or.inr sz_d23ah) (allS (Or.inr sz_d23au) (allS (Or.inr sz_d23qa) (allS (Or.inr sz_d23qb) (allS (Or.inr sz_d23qc) (allS (Or.inr sz_d23qd) all0)))))))))
  have B34 := B33.keep K34 (ninS ne_b1_b22 (ninS ne_b1_d23av (ninS ne_b1_d23al (ninS ne_b1_d23ah (ninS ne_b1_d23au (ninS ne_b1_d23qa (ninS ne_b1_d23qb (ninS ne_b1_d23qc (ninS ne_b1_d23qd nin0)))))))))
  obtain ⟨_, T35, Lc35, X35, hQ35, st35⟩ := own_virtual (W := 0) (y := mN17) (z := mN17) X34 hx hZ hown (hw _ (own_w 124 rfl)) (hw _ (own_w 125 rfl)) (notFace_of_selects (args := #[]) (mvT hZ (hw _ (own_w 127 rfl)))) (hw _ (own_w 127 rfl)) (hw _ (own_w 126 rfl)) (hw _ (own_w 128 rfl)) (hw _ (own_w 5 rfl)) (by decide) (rmProb l Z av0 hw [] b22 d23av d23al d23ah d23au d23qa d23qb d23qc d23qd v34vr v34lw v34hg v34uq v34c1 v34c2 v34c3 v34c4 sz34 b1 (own_ud (own_ud (own_ud (own_ud (own_ud (own_ud (own_ud (own_ud (own_ud (own_ud (fun _ => 0) 0 (own_e ko)) 1 (own_e ko)) 2 (own_e ko)) 3 (own_e ko)) 4 (own_e ko)) 5 (own_e ko)) 6 (own_e ko)) 7 (own_e ko)) ii (own_e ki)) jj (own_e kj)) r34 (own_kk ii jj ki kj) W34 T34.heap n0 Zk34 D34 B34 hr34 hW34) (by decide) (by decide) D34.E (g := (mkF m 305 #[iv p0, iv p1, iv p2, iv p3, iv p4, iv p5, iv (own_n ii), iv (own_n jj), iv (own_n ki), iv (own_n kj), iv (own_n ko), .val (.double (own_e ko)), .second, rv b1, iv (own_n t00), iv (own_n t01), iv (own_n t10), iv (own_n t11), rv b22, iv 2, iv 3, iv ((own_n (own_r t01 t00))), iv ((own_n (own_r t11 t10))), iv (own_n r34), iv (own_n ki), iv ((own_n (8 - ki))), iv (own_n kj), iv ((own_n (8 - kj))), iv ((own_n (own_N ki kj t00 t01 t10 t11)))] [(.ref b1), (.int (own_n r34)), (.ref b22)])) rfl (by rw [hml]; rfl) (argsL := [(.int (own_n r34)), (.ref b1)]) (rest := []) (lenOf pd__IA_D_D rfl) rfl (hb hby at_305) rfl e34 (by decide : 31 + 1 ≤ _) (by decide : 9542 + 18 ≤ _)
  obtain ⟨y35, rfl, N35q, K35, Dy35⟩ := hQ35
  have N35 := Fr.app N34 N35q
  have e35 : T35.heap = T35.heap := rfl
  have Zk35 : n0 ≤ T35.heap.size := Nat.le_trans Zk34 K35.1
  have Kk35 : Keep h0 T35.heap [] := Kk34.trans K35 all0
  have S36 : ∀ tz, oS p e below T35 (mkF m 324 #[iv p0, iv p1, iv p2, iv p3, iv p4, iv p5, iv (own_n ii), iv (own_n jj), iv (own_n ki), iv (own_n kj), iv (own_n ko), .val (.double (own_e ko)), .second, rv b1, iv (own_n t00), iv (own_n t01), iv (own_n t10), iv (own_n t11), rv b22, iv 2, iv 3, iv ((own_n (own_r t01 t00))), iv ((own_n (own_r t11 t10))), iv (own_n r34), iv (own_n ki), iv ((own_n (8 - ki))), iv (own_n kj), iv ((own_n (8 - kj))), iv ((own_n (own_N ki kj t00 t01 t10 t11)))] [(.int 1)]) tz → oS p e below s₁ (mkF m 0 #[iv p0, iv p1, iv p2, iv p3, iv p4, iv p5, .unset, .unset, .unset, .unset, .unset, .unset, .unset, .unset, .unset, .unset, .unset, .unset, .unset, .unset, .unset, .unset, .unset, .unset, .unset, .unset, .unset, .unset, .unset] []) tz := fun tz kz => id (by
    show oS p e below s₁ (mkF m 0 #[iv p0, iv p1, iv p2, iv p3, iv p4, iv p5, .unset, .unset, .unset, .unset, .unset, .unset, .unset, .unset, .unset, .unset, .unset, .unset, .unset, .unset, .unset, .unset, .unset, .unset, .unset, .unset, .unset, .unset, .unset] []) _
    refine XS.iloadN X0.here hx rfl (hb hby at_0) rfl ?_
    refine XT.bipushV X0.here hx rfl (7 : Int32) (hb hby at_1) (by decide) ?_
    refine XS.iand X0.here hx rfl (hb hby at_3) rfl ?_
    show oS p e below s₁ (mkF m 4 #[iv p0, iv p1, iv p2, iv p3, iv p4, iv p5, .unset, .unset, .unset, .unset, .unset, .unset, .unset, .unset, .unset, .unset, .unset, .unset, .unset, .unset, .unset, .unset, .unset, .unset, .unset, .unset, .unset, .unset, .unset] [(.int (p0 &&& (7 : Int32)))]) _
    rw [hi]
    show oS p e below s₁ (mkF m 4 #[iv p0, iv p1, iv p2, iv p3, iv p4, iv p5, .unset, .unset, .unset, .unset, .unset, .unset, .unset, .unset, .unset, .unset, .unset, .unset, .unset, .unset, .unset, .unset, .unset, .unset, .unset, .unset, .unset, .unset, .unset] [(.int (own_n ii))]) _
    refine XS.istore X0.here hx rfl (hb hby at_4) rfl (l' := #[iv p0, iv p1, iv p2, iv p3, iv p4, iv p5, iv (own_n ii), .unset, .unset, .unset, .unset, .unset, .unset, .unset, .unset, .unset, .unset, .unset, .unset, .unset, .unset, .unset, .unset, .unset, .unset, .unset, .unset, .unset, .unset]) rfl ?_
    refine XS.iload X0.here hx rfl (hb hby at_6) rfl ?_
    refine XT.iconstV X0.here hx rfl (1 : Int32) (hb hby at_8) (by decide) ?_
    refine XS.iadd X0.here hx rfl (hb hby at_9) rfl ?_
    refine XS.iloadN X0.here hx rfl (hb hby at_10) rfl ?_
    refine X0.ldcI hx hown (mvT hZ (hw _ (own_w 0 rfl))) rfl (hb hby at_11) ?_
    show oS p e below s₁ (mkF m 13 #[iv p0, iv p1, iv p2, iv p3, iv p4, iv p5, iv (own_n ii), .unset, .unset, .unset, .unset, .unset, .unset, .unset, .unset, .unset, .unset, .unset, .unset, .unset, .unset, .unset, .unset, .unset, .unset, .unset, .unset, .unset, .unset] [(.int 2147483647), (.int p1), (.int ((own_n ii) + (1 : Int32)))]) _
    refine XS.iand X0.here hx rfl (hb hby at_13) rfl ?_
    refine XT.bipushV X0.here hx rfl (7 : Int32) (hb hby at_14) (by decide) ?_
    refine XS.irem X0.here hx rfl (hb hby at_16) rfl (by decide) ?_
    show oS p e below s₁ (mkF m 17 #[iv p0, iv p1, iv p2, iv p3, iv p4, iv p5, iv (own_n ii), .unset, .unset, .unset, .unset, .unset, .unset, .unset, .unset, .unset, .unset, .unset, .unset, .unset, .unset, .unset, .unset, .unset, .unset, .unset, .unset, .unset, .unset] [(.int ((p1 &&& (2147483647 : Int32)) - ((p1 &&& (2147483647 : Int32)) / (7 : Int32)) * (7 : Int32))), (.int ((own_n ii) + (1 : Int32)))]) _
    skip
    show oS p e below s₁ (mkF m 17 #[iv p0, iv p1, iv p2, iv p3, iv p4, iv p5, iv (own_n ii), .unset, .unset, .unset, .unset, .unset, .unset, .unset, .unset, .unset, .unset, .unset, .unset, .unset, .unset, .unset, .unset, .unset, .unset, .unset, .unset, .unset, .unset] [(.int (own_P p1 (7 : Int32))), (.int ((own_n ii) + (1 : Int32)))]) _
    refine XS.iadd X0.here hx rfl (hb hby at_17) rfl ?_
    refine XT.bipushV X0.here hx rfl (7 : Int32) (hb hby at_18) (by decide) ?_
    refine XS.iand X0.here hx rfl (hb hby at_20) rfl ?_
    show oS p e below s₁ (mkF m 21 #[iv p0, iv p1, iv p2, iv p3, iv p4, iv p5, iv (own_n ii), .unset, .unset, .unset, .unset, .unset, .unset, .unset, .unset, .unset, .unset, .unset, .unset, .unset, .unset, .unset, .unset, .unset, .unset, .unset, .unset, .unset, .unset] [(.int ((((own_n ii) + (1 : Int32)) + (own_P p1 (7 : Int32))) &&& (7 : Int32)))]) _
    rw [hj]
    show oS p e below s₁ (mkF m 21 #[iv p0, iv p1, iv p2, iv p3, iv p4, iv p5, iv (own_n ii), .unset, .unset, .unset, .unset, .unset, .unset, .unset, .unset, .unset, .unset, .unset, .unset, .unset, .unset, .unset, .unset, .unset, .unset, .unset, .unset, .unset, .unset] [(.int (own_n jj))]) _
    refine XS.istore X0.here hx rfl (hb hby at_21) rfl (l' := #[iv p0, iv p1, iv p2, iv p3, iv p4, iv p5, iv (own_n ii), iv (own_n jj), .unset, .unset, .unset, .unset, .unset, .unset, .unset, .unset, .unset, .unset, .unset, .unset, .unset, .unset, .unset, .unset, .unset, .unset, .unset, .unset, .unset]) rfl ?_
    refine XS.iloadN X0.here hx rfl (hb hby at_23) rfl ?_
    show oS p e below s₁ (mkF m 24 #[iv p0, iv p1, iv p2, iv p3, iv p4, iv p5, iv (own_n ii), iv (own_n jj), .unset, .unset, .unset, .unset, .unset, .unset, .unset, .unset, .unset, .unset, .unset, .unset, .unset, .unset, .unset, .unset, .unset, .unset, .unset, .unset, .unset] [(.int p2)]) _
    refine X0.ldcI hx hown (mvT hZ (hw _ (own_w 0 rfl))) rfl (hb hby at_24) ?_
    refine XS.iand X0.here hx rfl (hb hby at_26) rfl ?_
    refine XT.bipushV X0.here hx rfl (9 : Int32) (hb hby at_27) (by decide) ?_
    refine XS.irem X0.here hx rfl (hb hby at_29) rfl (by decide) ?_
    show oS p e below s₁ (mkF m 30 #[iv p0, iv p1, iv p2, iv p3, iv p4, iv p5, iv (own_n ii), iv (own_n jj), .unset, .unset, .unset, .unset, .unset, .unset, .unset, .unset, .unset, .unset, .unset, .unset, .unset, .unset, .unset, .unset, .unset, .unset, .unset, .unset, .unset] [(.int ((p2 &&& (2147483647 : Int32)) - ((p2 &&& (2147483647 : Int32)) / (9 : Int32)) * (9 : Int32)))]) _
    show oS p e below s₁ (mkF m 30 #[iv p0, iv p1, iv p2, iv p3, iv p4, iv p5, iv (own_n ii), iv (own_n jj), .unset, .unset, .unset, .unset, .unset, .unset, .unset, .unset, .unset, .unset, .unset, .unset, .unset, .unset, .unset, .unset, .unset, .unset, .unset, .unset, .unset] [(.int (own_P p2 (9 : Int32)))]) _
    rw [hki]
    show oS p e below s₁ (mkF m 30 #[iv p0, iv p1, iv p2, iv p3, iv p4, iv p5, iv (own_n ii), iv (own_n jj), .unset, .unset, .unset, .unset, .unset, .unset, .unset, .unset, .unset, .unset, .unset, .unset, .unset, .unset, .unset, .unset, .unset, .unset, .unset, .unset, .unset] [(.int (own_n ki))]) _
    refine XS.istore X0.here hx rfl (hb hby at_30) rfl (l' := #[iv p0, iv p1, iv p2, iv p3, iv p4, iv p5, iv (own_n ii), iv (own_n jj), iv (own_n ki), .unset, .unset, .unset, .unset, .unset, .unset, .unset, .unset, .unset, .unset, .unset, .unset, .unset, .unset, .unset, .unset, .unset, .unset, .unset, .unset]) rfl ?_
    refine XS.iloadN X0.here hx rfl (hb hby at_32) rfl ?_
    refine X0.ldcI hx hown (mvT hZ (hw _ (own_w 0 rfl))) rfl (hb hby at_33) ?_
    refine XS.iand X0.here hx rfl (hb hby at_35) rfl ?_
    refine XT.bipushV X0.here hx rfl (9 : Int32) (hb hby at_36) (by decide) ?_
    show oS p e below s₁ (mkF m 38 #[iv p0, iv p1, iv p2, iv p3, iv p4, iv p5, iv (own_n ii), iv (own_n jj), iv (own_n ki), .unset, .unset, .unset, .unset, .unset, .unset, .unset, .unset, .unset, .unset, .unset, .unset, .unset, .unset, .unset, .unset, .unset, .unset, .unset, .unset] [(.int 9), (.int (p3 &&& (2147483647 : Int32)))]) _
    refine XS.irem X0.here hx rfl (hb hby at_38) rfl (by decide) ?_
    show oS p e below s₁ (mkF m 39 #[iv p0, iv p1, iv p2, iv p3, iv p4, iv p5, iv (own_n ii), iv (own_n jj), iv (own_n ki), .unset, .unset, .unset, .unset, .unset, .unset, .unset, .unset, .unset, .unset, .unset, .unset, .unset, .unset, .unset, .unset, .unset, .unset, .unset, .unset] [(.int ((p3 &&& (2147483647 : Int32)) - ((p3 &&& (2147483647 : Int32)) / (9 : Int32)) * (9 : Int32)))]) _
    show oS p e below s₁ (mkF m 39 #[iv p0, iv p1, iv p2, iv p3, iv p4, iv p5, iv (own_n ii), iv (own_n jj), iv (own_n ki), .unset, .unset, .unset, .unset, .unset, .unset, .unset, .unset, .unset, .unset, .unset, .unset, .unset, .unset, .unset, .unset, .unset, .unset, .unset, .unset] [(.int (own_P p3 (9 : Int32)))]) _
    rw [hkj]
    show oS p e below s₁ (mkF m 39 #[iv p0, iv p1, iv p2, iv p3, iv p4, iv p5, iv (own_n ii), iv (own_n jj), iv (own_n ki), .unset, .unset, .unset, .unset, .unset, .unset, .unset, .unset, .unset, .unset, .unset, .unset, .unset, .unset, .unset, .unset, .unset, .unset, .unset, .unset] [(.int (own_n kj))]) _
    refine XS.istore X0.here hx rfl (hb hby at_39) rfl (l' := #[iv p0, iv p1, iv p2, iv p3, iv p4, iv p5, iv (own_n ii), iv (own_n jj), iv (own_n ki), iv (own_n kj), .unset, .unset, .unset, .unset, .unset, .unset, .unset, .unset, .unset, .unset, .unset, .unset, .unset, .unset, .unset, .unset, .unset, .unset, .unset]) rfl ?_
    refine XS.iload X0.here hx rfl (hb hby at_41) rfl ?_
    refine X0.ldcI hx hown (mvT hZ (hw _ (own_w 0 rfl))) rfl (hb hby at_43) ?_
    refine XS.iand X0.here hx rfl (hb hby at_45) rfl ?_
    refine XT.bipushV X0.here hx rfl (9 : Int32) (hb hby at_46) (by decide) ?_
    refine XS.irem X0.here hx rfl (hb hby at_48) rfl (by decide) ?_
    show oS p e below s₁ (mkF m 49 #[iv p0, iv p1, iv p2, iv p3, iv p4, iv p5, iv (own_n ii), iv (own_n jj), iv (own_n ki), iv (own_n kj), .unset, .unset, .unset, .unset, .unset, .unset, .unset, .unset, .unset, .unset, .unset, .unset, .unset, .unset, .unset, .unset, .unset, .unset, .unset] [(.int ((p4 &&& (2147483647 : Int32)) - ((p4 &&& (2147483647 : Int32)) / (9 : Int32)) * (9 : Int32)))]) _
    show oS p e below s₁ (mkF m 49 #[iv p0, iv p1, iv p2, iv p3, iv p4, iv p5, iv (own_n ii), iv (own_n jj), iv (own_n ki), iv (own_n kj), .unset, .unset, .unset, .unset, .unset, .unset, .unset, .unset, .unset, .unset, .unset, .unset, .unset, .unset, .unset, .unset, .unset, .unset, .unset] [(.int (own_P p4 (9 : Int32)))]) _
    rw [hko]
    show oS p e below s₁ (mkF m 49 #[iv p0, iv p1, iv p2, iv p3, iv p4, iv p5, iv (own_n ii), iv (own_n jj), iv (own_n ki), iv (own_n kj), .unset, .unset, .unset, .unset, .unset, .unset, .unset, .unset, .unset, .unset, .unset, .unset, .unset, .unset, .unset, .unset, .unset, .unset, .unset] [(.int (own_n ko))]) _
    refine XS.istore X0.here hx rfl (hb hby at_49) rfl (l' := #[iv p0, iv p1, iv p2, iv p3, iv p4, iv p5, iv (own_n ii), iv (own_n jj), iv (own_n ki), iv (own_n kj), iv (own_n ko), .unset, .unset, .unset, .unset, .unset, .unset, .unset, .unset, .unset, .unset, .unset, .unset, .unset, .unset, .unset, .unset, .unset, .unset]) rfl ?_
    show oS p e below s₁ (mkF m 51 #[iv p0, iv p1, iv p2, iv p3, iv p4, iv p5, iv (own_n ii), iv (own_n jj), iv (own_n ki), iv (own_n kj), iv (own_n ko), .unset, .unset, .unset, .unset, .unset, .unset, .unset, .unset, .unset, .unset, .unset, .unset, .unset, .unset, .unset, .unset, .unset, .unset] []) _
    refine XS.iload X0.here hx rfl (hb hby at_51) rfl ?_
    refine XS.i2dS X0.here hx rfl (hb hby at_53) rfl rfl ?_
    refine X0.ldc2DoubleC hx hown (mvT hZ (hw _ (own_w 1 rfl))) (g := (mkF m 54 #[iv p0, iv p1, iv p2, iv p3, iv p4, iv p5, iv (own_n ii), iv (own_n jj), iv (own_n ki), iv (own_n kj), iv (own_n ko), .unset, .unset, .unset, .unset, .unset, .unset, .unset, .unset, .unset, .unset, .unset, .unset, .unset, .unset, .unset, .unset, .unset, .unset] [(.double (FP.i2d (own_n ko)))])) rfl (hb hby at_54) _ ?_
    refine XS.ddivS X0.here hx rfl (hb hby at_57) rfl (own_nnD (own_eD (k := ko) (by omega))) rfl ?_
    show oS p e below s₁ (mkF m 58 #[iv p0, iv p1, iv p2, iv p3, iv p4, iv p5, iv (own_n ii), iv (own_n jj), iv (own_n ki), iv (own_n kj), iv (own_n ko), .unset, .unset, .unset, .unset, .unset, .unset, .unset, .unset, .unset, .unset, .unset, .unset, .unset, .unset, .unset, .unset, .unset, .unset] [(.double (FP.ddiv (FP.i2d (own_n ko)) (4620693217682128896 : UInt64)))]) _
    skip
    show oS p e below s₁ (mkF m 58 #[iv p0, iv p1, iv p2, iv p3, iv p4, iv p5, iv (own_n ii), iv (own_n jj), iv (own_n ki), iv (own_n kj), iv (own_n ko), .unset, .unset, .unset, .unset, .unset, .unset, .unset, .unset, .unset, .unset, .unset, .unset, .unset, .unset, .unset, .unset, .unset, .unset] [(.double (own_e ko))]) _
    refine XS.dstore X0.here hx rfl (hb hby at_58) rfl (l' := #[iv p0, iv p1, iv p2, iv p3, iv p4, iv p5, iv (own_n ii), iv (own_n jj), iv (own_n ki), iv (own_n kj), iv (own_n ko), .val (.double (own_e ko)), .second, .unset, .unset, .unset, .unset, .unset, .unset, .unset, .unset, .unset, .unset, .unset, .unset, .unset, .unset, .unset, .unset]) rfl ?_
    refine XT.bipushV X0.here hx rfl (8 : Int32) (hb hby at_60) (by decide) ?_
    refine st1 _ ?_
    refine XS.dup X1.here hx rfl (hb hby at_64) rfl rfl ?_
    refine XT.iconstV X1.here hx rfl (0 : Int32) (hb hby at_65) (by decide) ?_
    show oS p e below T1 (mkF m 66 #[iv p0, iv p1, iv p2, iv p3, iv p4, iv p5, iv (own_n ii), iv (own_n jj), iv (own_n ki), iv (own_n kj), iv (own_n ko), .val (.double (own_e ko)), .second, .unset, .unset, .unset, .unset, .unset, .unset, .unset, .unset, .unset, .unset, .unset, .unset, .unset, .unset, .unset, .unset] [(.int 0), (.ref b1), (.ref b1)]) _
    refine XS.dload X1.here hx rfl (hb hby at_66) rfl ?_
    refine st3 _ ?_
    refine XS.dup X3.here hx rfl (hb hby at_69) rfl rfl ?_
    refine XT.iconstV X3.here hx rfl (1 : Int32) (hb hby at_70) (by decide) ?_
    refine XS.dload X3.here hx rfl (hb hby at_71) rfl ?_
    refine st5 _ ?_
    refine XS.dup X5.here hx rfl (hb hby at_74) rfl rfl ?_
    refine XT.iconstV X5.here hx rfl (2 : Int32) (hb hby at_75) (by decide) ?_
    refine XS.dload X5.here hx rfl (hb hby at_76) rfl ?_
    refine st7 _ ?_
    show oS p e below T7 (mkF m 79 #[iv p0, iv p1, iv p2, iv p3, iv p4, iv p5, iv (own_n ii), iv (own_n jj), iv (own_n ki), iv (own_n kj), iv (own_n ko), .val (.double (own_e ko)), .second, .unset, .unset, .unset, .unset, .unset, .unset, .unset, .unset, .unset, .unset, .unset, .unset, .unset, .unset, .unset, .unset] [(.ref b1)]) _
    refine XS.dup X7.here hx rfl (hb hby at_79) rfl rfl ?_
    refine XT.iconstV X7.here hx rfl (3 : Int32) (hb hby at_80) (by decide) ?_
    refine XS.dload X7.here hx rfl (hb hby at_81) rfl ?_
    refine st9 _ ?_
    refine XS.dup X9.here hx rfl (hb hby at_84) rfl rfl ?_
    refine XT.iconstV X9.here hx rfl (4 : Int32) (hb hby at_85) (by decide) ?_
    refine XS.dload X9.here hx rfl (hb hby at_86) rfl ?_
    refine st11 _ ?_
    refine XS.dup X11.here hx rfl (hb hby at_89) rfl rfl ?_
    refine XT.iconstV X11.here hx rfl (5 : Int32) (hb hby at_90) (by decide) ?_
    show oS p e below T11 (mkF m 91 #[iv p0, iv p1, iv p2, iv p3, iv p4, iv p5, iv (own_n ii), iv (own_n jj), iv (own_n ki), iv (own_n kj), iv (own_n ko), .val (.double (own_e ko)), .second, .unset, .unset, .unset, .unset, .unset, .unset, .unset, .unset, .unset, .unset, .unset, .unset, .unset, .unset, .unset, .unset] [(.int 5), (.ref b1), (.ref b1)]) _
    refine XS.dload X11.here hx rfl (hb hby at_91) rfl ?_
    refine st13 _ ?_
    refine XS.dup X13.here hx rfl (hb hby at_94) rfl rfl ?_
    refine XT.bipushV X13.here hx rfl (6 : Int32) (hb hby at_95) (by decide) ?_
    refine XS.dload X13.here hx rfl (hb hby at_97) rfl ?_
    refine st15 _ ?_
    refine XS.dup X15.here hx rfl (hb hby at_100) rfl rfl ?_
    refine XT.bipushV X15.here hx rfl (7 : Int32) (hb hby at_101) (by decide) ?_
    refine XS.dload X15.here hx rfl (hb hby at_103) rfl ?_
    refine st17 _ ?_
    show oS p e below T17 (mkF m 106 #[iv p0, iv p1, iv p2, iv p3, iv p4, iv p5, iv (own_n ii), iv (own_n jj), iv (own_n ki), iv (own_n kj), iv (own_n ko), .val (.double (own_e ko)), .second, .unset, .unset, .unset, .unset, .unset, .unset, .unset, .unset, .unset, .unset, .unset, .unset, .unset, .unset, .unset, .unset] [(.ref b1)]) _
    refine XS.astore X17.here hx rfl (hb hby at_106) rfl rfl (l' := #[iv p0, iv p1, iv p2, iv p3, iv p4, iv p5, iv (own_n ii), iv (own_n jj), iv (own_n ki), iv (own_n kj), iv (own_n ko), .val (.double (own_e ko)), .second, rv b1, .unset, .unset, .unset, .unset, .unset, .unset, .unset, .unset, .unset, .unset, .unset, .unset, .unset, .unset, .unset]) rfl ?_
    refine XS.aload X17.here hx rfl (hb hby at_108) rfl rfl ?_
    refine XS.iload X17.here hx rfl (hb hby at_110) rfl ?_
    refine XS.iload X17.here hx rfl (hb hby at_112) rfl ?_
    refine XS.i2dS X17.here hx rfl (hb hby at_114) rfl rfl ?_
    refine X17.ldc2DoubleC hx hown (mvT hZ (hw _ (own_w 1 rfl))) (g := (mkF m 115 #[iv p0, iv p1, iv p2, iv p3, iv p4, iv p5, iv (own_n ii), iv (own_n jj), iv (own_n ki), iv (own_n kj), iv (own_n ko), .val (.double (own_e ko)), .second, rv b1, .unset, .unset, .unset, .unset, .unset, .unset, .unset, .unset, .unset, .unset, .unset, .unset, .unset, .unset, .unset] [(.double (FP.i2d (own_n ki))), (.int (own_n ii)), (.ref b1)])) rfl (hb hby at_115) _ ?_
    refine XS.ddivS X17.here hx rfl (hb hby at_118) rfl (own_nnD (own_eD (k := ki) (by omega))) rfl ?_
    show oS p e below T17 (mkF m 119 #[iv p0, iv p1, iv p2, iv p3, iv p4, iv p5, iv (own_n ii), iv (own_n jj), iv (own_n ki), iv (own_n kj), iv (own_n ko), .val (.double (own_e ko)), .second, rv b1, .unset, .unset, .unset, .unset, .unset, .unset, .unset, .unset, .unset, .unset, .unset, .unset, .unset, .unset, .unset] [(.double (FP.ddiv (FP.i2d (own_n ki)) (4620693217682128896 : UInt64))), (.int (own_n ii)), (.ref b1)]) _
    skip
    show oS p e below T17 (mkF m 119 #[iv p0, iv p1, iv p2, iv p3, iv p4, iv p5, iv (own_n ii), iv (own_n jj), iv (own_n ki), iv (own_n kj), iv (own_n ko), .val (.double (own_e ko)), .second, rv b1, .unset, .unset, .unset, .unset, .unset, .unset, .unset, .unset, .unset, .unset, .unset, .unset, .unset, .unset, .unset] [(.double (own_e ki)), (.int (own_n ii)), (.ref b1)]) _
    refine st19 _ ?_
    refine XS.aload X19.here hx rfl (hb hby at_120) rfl rfl ?_
    show oS p e below T19 (mkF m 122 #[iv p0, iv p1, iv p2, iv p3, iv p4, iv p5, iv (own_n ii), iv (own_n jj), iv (own_n ki), iv (own_n kj), iv (own_n ko), .val (.double (own_e ko)), .second, rv b1, .unset, .unset, .unset, .unset, .unset, .unset, .unset, .unset, .unset, .unset, .unset, .unset, .unset, .unset, .unset] [(.ref b1)]) _
    refine XS.iload X19.here hx rfl (hb hby at_122) rfl ?_
    refine XS.iload X19.here hx rfl (hb hby at_124) rfl ?_
    refine XS.i2dS X19.here hx rfl (hb hby at_126) rfl rfl ?_
    refine X19.ldc2DoubleC hx hown (mvT hZ (hw _ (own_w 1 rfl))) (g := (mkF m 127 #[iv p0, iv p1, iv p2, iv p3, iv p4, iv p5, iv (own_n ii), iv (own_n jj), iv (own_n ki), iv (own_n kj), iv (own_n ko), .val (.double (own_e ko)), .second, rv b1, .unset, .unset, .unset, .unset, .unset, .unset, .unset, .unset, .unset, .unset, .unset, .unset, .unset, .unset, .unset] [(.double (FP.i2d (own_n kj))), (.int (own_n jj)), (.ref b1)])) rfl (hb hby at_127) _ ?_
    refine XS.ddivS X19.here hx rfl (hb hby at_130) rfl (own_nnD (own_eD (k := kj) (by omega))) rfl ?_
    show oS p e below T19 (mkF m 131 #[iv p0, iv p1, iv p2, iv p3, iv p4, iv p5, iv (own_n ii), iv (own_n jj), iv (own_n ki), iv (own_n kj), iv (own_n ko), .val (.double (own_e ko)), .second, rv b1, .unset, .unset, .unset, .unset, .unset, .unset, .unset, .unset, .unset, .unset, .unset, .unset, .unset, .unset, .unset] [(.double (FP.ddiv (FP.i2d (own_n kj)) (4620693217682128896 : UInt64))), (.int (own_n jj)), (.ref b1)]) _
    skip
    show oS p e below T19 (mkF m 131 #[iv p0, iv p1, iv p2, iv p3, iv p4, iv p5, iv (own_n ii), iv (own_n jj), iv (own_n ki), iv (own_n kj), iv (own_n ko), .val (.double (own_e ko)), .second, rv b1, .unset, .unset, .unset, .unset, .unset, .unset, .unset, .unset, .unset, .unset, .unset, .unset, .unset, .unset, .unset] [(.double (own_e kj)), (.int (own_n jj)), (.ref b1)]) _
    refine st21 _ ?_
    refine XS.iload X21.here hx rfl (hb hby at_132) rfl ?_
    refine XT.iconstV X21.here hx rfl (1 : Int32) (hb hby at_134) (by decide) ?_
    refine XS.iand X21.here hx rfl (hb hby at_135) rfl ?_
    show oS p e below T21 (mkF m 136 #[iv p0, iv p1, iv p2, iv p3, iv p4, iv p5, iv (own_n ii), iv (own_n jj), iv (own_n ki), iv (own_n kj), iv (own_n ko), .val (.double (own_e ko)), .second, rv b1, .unset, .unset, .unset, .unset, .unset, .unset, .unset, .unset, .unset, .unset, .unset, .unset, .unset, .unset, .unset] [(.int (p5 &&& (1 : Int32)))]) _
    show oS p e below T21 (mkF m 136 #[iv p0, iv p1, iv p2, iv p3, iv p4, iv p5, iv (own_n ii), iv (own_n jj), iv (own_n ki), iv (own_n kj), iv (own_n ko), .val (.double (own_e ko)), .second, rv b1, .unset, .unset, .unset, .unset, .unset, .unset, .unset, .unset, .unset, .unset, .unset, .unset, .unset, .unset, .unset] [(.int (p5 &&& (1 : Int32)))]) _
    rw [ht00]
    show oS p e below T21 (mkF m 136 #[iv p0, iv p1, iv p2, iv p3, iv p4, iv p5, iv (own_n ii), iv (own_n jj), iv (own_n ki), iv (own_n kj), iv (own_n ko), .val (.double (own_e ko)), .second, rv b1, .unset, .unset, .unset, .unset, .unset, .unset, .unset, .unset, .unset, .unset, .unset, .unset, .unset, .unset, .unset] [(.int (own_n t00))]) _
    refine XS.istore X21.here hx rfl (hb hby at_136) rfl (l' := #[iv p0, iv p1, iv p2, iv p3, iv p4, iv p5, iv (own_n ii), iv (own_n jj), iv (own_n ki), iv (own_n kj), iv (own_n ko), .val (.double (own_e ko)), .second, rv b1, iv (own_n t00), .unset, .unset, .unset, .unset, .unset, .unset, .unset, .unset, .unset, .unset, .unset, .unset, .unset, .unset]) rfl ?_
    refine XS.iload X21.here hx rfl (hb hby at_138) rfl ?_
    refine XT.iconstV X21.here hx rfl (1 : Int32) (hb hby at_140) (by decide) ?_
    refine XT.ishr X21.here hx rfl (hb hby at_141) rfl ?_
    refine XT.iconstV X21.here hx rfl (1 : Int32) (hb hby at_142) (by decide) ?_
    refine XS.iand X21.here hx rfl (hb hby at_143) rfl ?_
    show oS p e below T21 (mkF m 144 #[iv p0, iv p1, iv p2, iv p3, iv p4, iv p5, iv (own_n ii), iv (own_n jj), iv (own_n ki), iv (own_n kj), iv (own_n ko), .val (.double (own_e ko)), .second, rv b1, iv (own_n t00), .unset, .unset, .unset, .unset, .unset, .unset, .unset, .unset, .unset, .unset, .unset, .unset, .unset, .unset] [(.int ((p5 >>> ((1 : Int32) &&& 31)) &&& (1 : Int32)))]) _
    rw [ht01]
    show oS p e below T21 (mkF m 144 #[iv p0, iv p1, iv p2, iv p3, iv p4, iv p5, iv (own_n ii), iv (own_n jj), iv (own_n ki), iv (own_n kj), iv (own_n ko), .val (.double (own_e ko)), .second, rv b1, iv (own_n t00), .unset, .unset, .unset, .unset, .unset, .unset, .unset, .unset, .unset, .unset, .unset, .unset, .unset, .unset] [(.int (own_n t01))]) _
    refine XS.istore X21.here hx rfl (hb hby at_144) rfl (l' := #[iv p0, iv p1, iv p2, iv p3, iv p4, iv p5, iv (own_n ii), iv (own_n jj), iv (own_n ki), iv (own_n kj), iv (own_n ko), .val (.double (own_e ko)), .second, rv b1, iv (own_n t00), iv (own_n t01), .unset, .unset, .unset, .unset, .unset, .unset, .unset, .unset, .unset, .unset, .unset, .unset, .unset]) rfl ?_
    refine XS.iload X21.here hx rfl (hb hby at_146) rfl ?_
    show oS p e below T21 (mkF m 148 #[iv p0, iv p1, iv p2, iv p3, iv p4, iv p5, iv (own_n ii), iv (own_n jj), iv (own_n ki), iv (own_n kj), iv (own_n ko), .val (.double (own_e ko)), .second, rv b1, iv (own_n t00), iv (own_n t01), .unset, .unset, .unset, .unset, .unset, .unset, .unset, .unset, .unset, .unset, .unset, .unset, .unset] [(.int p5)]) _
    refine XT.iconstV X21.here hx rfl (2 : Int32) (hb hby at_148) (by decide) ?_
    refine XT.ishr X21.here hx rfl (hb hby at_149) rfl ?_
    refine XT.iconstV X21.here hx rfl (1 : Int32) (hb hby at_150) (by decide) ?_
    refine XS.iand X21.here hx rfl (hb hby at_151) rfl ?_
    show oS p e below T21 (mkF m 152 #[iv p0, iv p1, iv p2, iv p3, iv p4, iv p5, iv (own_n ii), iv (own_n jj), iv (own_n ki), iv (own_n kj), iv (own_n ko), .val (.double (own_e ko)), .second, rv b1, iv (own_n t00), iv (own_n t01), .unset, .unset, .unset, .unset, .unset, .unset, .unset, .unset, .unset, .unset, .unset, .unset, .unset] [(.int ((p5 >>> ((2 : Int32) &&& 31)) &&& (1 : Int32)))]) _
    rw [ht10]
    show oS p e below T21 (mkF m 152 #[iv p0, iv p1, iv p2, iv p3, iv p4, iv p5, iv (own_n ii), iv (own_n jj), iv (own_n ki), iv (own_n kj), iv (own_n ko), .val (.double (own_e ko)), .second, rv b1, iv (own_n t00), iv (own_n t01), .unset, .unset, .unset, .unset, .unset, .unset, .unset, .unset, .unset, .unset, .unset, .unset, .unset] [(.int (own_n t10))]) _
    refine XS.istore X21.here hx rfl (hb hby at_152) rfl (l' := #[iv p0, iv p1, iv p2, iv p3, iv p4, iv p5, iv (own_n ii), iv (own_n jj), iv (own_n ki), iv (own_n kj), iv (own_n ko), .val (.double (own_e ko)), .second, rv b1, iv (own_n t00), iv (own_n t01), iv (own_n t10), .unset, .unset, .unset, .unset, .unset, .unset, .unset, .unset, .unset, .unset, .unset, .unset]) rfl ?_
    refine XS.iload X21.here hx rfl (hb hby at_154) rfl ?_
    refine XT.iconstV X21.here hx rfl (3 : Int32) (hb hby at_156) (by decide) ?_
    refine XT.ishr X21.here hx rfl (hb hby at_157) rfl ?_
    refine XT.iconstV X21.here hx rfl (1 : Int32) (hb hby at_158) (by decide) ?_
    show oS p e below T21 (mkF m 159 #[iv p0, iv p1, iv p2, iv p3, iv p4, iv p5, iv (own_n ii), iv (own_n jj), iv (own_n ki), iv (own_n kj), iv (own_n ko), .val (.double (own_e ko)), .second, rv b1, iv (own_n t00), iv (own_n t01), iv (own_n t10), .unset, .unset, .unset, .unset, .unset, .unset, .unset, .unset, .unset, .unset, .unset, .unset] [(.int 1), (.int (p5 >>> ((3 : Int32) &&& 31)))]) _
    refine XS.iand X21.here hx rfl (hb hby at_159) rfl ?_
    show oS p e below T21 (mkF m 160 #[iv p0, iv p1, iv p2, iv p3, iv p4, iv p5, iv (own_n ii), iv (own_n jj), iv (own_n ki), iv (own_n kj), iv (own_n ko), .val (.double (own_e ko)), .second, rv b1, iv (own_n t00), iv (own_n t01), iv (own_n t10), .unset, .unset, .unset, .unset, .unset, .unset, .unset, .unset, .unset, .unset, .unset, .unset] [(.int ((p5 >>> ((3 : Int32) &&& 31)) &&& (1 : Int32)))]) _
    rw [ht11]
    show oS p e below T21 (mkF m 160 #[iv p0, iv p1, iv p2, iv p3, iv p4, iv p5, iv (own_n ii), iv (own_n jj), iv (own_n ki), iv (own_n kj), iv (own_n ko), .val (.double (own_e ko)), .second, rv b1, iv (own_n t00), iv (own_n t01), iv (own_n t10), .unset, .unset, .unset, .unset, .unset, .unset, .unset, .unset, .unset, .unset, .unset, .unset] [(.int (own_n t11))]) _
    refine XS.istore X21.here hx rfl (hb hby at_160) rfl (l' := #[iv p0, iv p1, iv p2, iv p3, iv p4, iv p5, iv (own_n ii), iv (own_n jj), iv (own_n ki), iv (own_n kj), iv (own_n ko), .val (.double (own_e ko)), .second, rv b1, iv (own_n t00), iv (own_n t01), iv (own_n t10), iv (own_n t11), .unset, .unset, .unset, .unset, .unset, .unset, .unset, .unset, .unset, .unset, .unset]) rfl ?_
    refine st22 _ ?_
    refine XS.dup X22.here hx rfl (hb hby at_165) rfl rfl ?_
    refine st23 _ ?_
    refine XS.astore X23.here hx rfl (hb hby at_169) rfl rfl (l' := #[iv p0, iv p1, iv p2, iv p3, iv p4, iv p5, iv (own_n ii), iv (own_n jj), iv (own_n ki), iv (own_n kj), iv (own_n ko), .val (.double (own_e ko)), .second, rv b1, iv (own_n t00), iv (own_n t01), iv (own_n t10), iv (own_n t11), rv b22, .unset, .unset, .unset, .unset, .unset, .unset, .unset, .unset, .unset, .unset]) rfl ?_
    refine XS.aload X23.here hx rfl (hb hby at_171) rfl rfl ?_
    refine XS.iload X23.here hx rfl (hb hby at_173) rfl ?_
    refine st25 _ ?_
    show oS p e below T25 (mkF m 178 #[iv p0, iv p1, iv p2, iv p3, iv p4, iv p5, iv (own_n ii), iv (own_n jj), iv (own_n ki), iv (own_n kj), iv (own_n ko), .val (.double (own_e ko)), .second, rv b1, iv (own_n t00), iv (own_n t01), iv (own_n t10), iv (own_n t11), rv b22, .unset, .unset, .unset, .unset, .unset, .unset, .unset, .unset, .unset, .unset] [(.int 2)]) _
    refine XS.istore X25.here hx rfl (hb hby at_178) rfl (l' := #[iv p0, iv p1, iv p2, iv p3, iv p4, iv p5, iv (own_n ii), iv (own_n jj), iv (own_n ki), iv (own_n kj), iv (own_n ko), .val (.double (own_e ko)), .second, rv b1, iv (own_n t00), iv (own_n t01), iv (own_n t10), iv (own_n t11), rv b22, iv 2, .unset, .unset, .unset, .unset, .unset, .unset, .unset, .unset, .unset]) rfl ?_
    refine XS.aload X25.here hx rfl (hb hby at_180) rfl rfl ?_
    refine XS.iload X25.here hx rfl (hb hby at_182) rfl ?_
    refine st27 _ ?_
    refine XS.istore X27.here hx rfl (hb hby at_187) rfl (l' := #[iv p0, iv p1, iv p2, iv p3, iv p4, iv p5, iv (own_n ii), iv (own_n jj), iv (own_n ki), iv (own_n kj), iv (own_n ko), .val (.double (own_e ko)), .second, rv b1, iv (own_n t00), iv (own_n t01), iv (own_n t10), iv (own_n t11), rv b22, iv 2, iv 3, .unset, .unset, .unset, .unset, .unset, .unset, .unset, .unset]) rfl ?_
    refine XS.aload X27.here hx rfl (hb hby at_189) rfl rfl ?_
    refine XS.iload X27.here hx rfl (hb hby at_191) rfl ?_
    refine XS.iload X27.here hx rfl (hb hby at_193) rfl ?_
    refine st28 _ ?_
    refine XS.iload X28.here hx rfl (hb hby at_198) rfl ?_
    show oS p e below T28 (mkF m 200 #[iv p0, iv p1, iv p2, iv p3, iv p4, iv p5, iv (own_n ii), iv (own_n jj), iv (own_n ki), iv (own_n kj), iv (own_n ko), .val (.double (own_e ko)), .second, rv b1, iv (own_n t00), iv (own_n t01), iv (own_n t10), iv (own_n t11), rv b22, iv 2, iv 3, .unset, .unset, .unset, .unset, .unset, .unset, .unset, .unset] [(.int (own_n t00)), (.int (own_n t01)), (.int 3), (.ref b22)]) _
    refine st29 _ ?_
    refine st30 _ ?_
    refine XS.istore X30.here hx rfl (hb hby at_206) rfl (l' := #[iv p0, iv p1, iv p2, iv p3, iv p4, iv p5, iv (own_n ii), iv (own_n jj), iv (own_n ki), iv (own_n kj), iv (own_n ko), .val (.double (own_e ko)), .second, rv b1, iv (own_n t00), iv (own_n t01), iv (own_n t10), iv (own_n t11), rv b22, iv 2, iv 3, iv ((own_n (own_r t01 t00))), .unset, .unset, .unset, .unset, .unset, .unset, .unset]) rfl ?_
    refine XS.aload X30.here hx rfl (hb hby at_208) rfl rfl ?_
    refine XS.iload X30.here hx rfl (hb hby at_210) rfl ?_
    refine XS.iload X30.here hx rfl (hb hby at_212) rfl ?_
    refine st31 _ ?_
    refine XS.iload X31.here hx rfl (hb hby at_217) rfl ?_
    refine st32 _ ?_
    refine st33 _ ?_
    show oS p e below T33 (mkF m 225 #[iv p0, iv p1, iv p2, iv p3, iv p4, iv p5, iv (own_n ii), iv (own_n jj), iv (own_n ki), iv (own_n kj), iv (own_n ko), .val (.double (own_e ko)), .second, rv b1, iv (own_n t00), iv (own_n t01), iv (own_n t10), iv (own_n t11), rv b22, iv 2, iv 3, iv ((own_n (own_r t01 t00))), .unset, .unset, .unset, .unset, .unset, .unset, .unset] [(.int (own_n (own_r t11 t10)))]) _
    refine XS.istore X33.here hx rfl (hb hby at_225) rfl (l' := #[iv p0, iv p1, iv p2, iv p3, iv p4, iv p5, iv (own_n ii), iv (own_n jj), iv (own_n ki), iv (own_n kj), iv (own_n ko), .val (.double (own_e ko)), .second, rv b1, iv (own_n t00), iv (own_n t01), iv (own_n t10), iv (own_n t11), rv b22, iv 2, iv 3, iv ((own_n (own_r t01 t00))), iv ((own_n (own_r t11 t10))), .unset, .unset, .unset, .unset, .unset, .unset]) rfl ?_
    refine XS.aload X33.here hx rfl (hb hby at_227) rfl rfl ?_
    refine XS.iload X33.here hx rfl (hb hby at_229) rfl ?_
    refine XS.iload X33.here hx rfl (hb hby at_231) rfl ?_
    refine XS.iload X33.here hx rfl (hb hby at_233) rfl ?_
    refine st34 _ ?_
    refine XS.istore X34.here hx rfl (hb hby at_238) rfl (l' := #[iv p0, iv p1, iv p2, iv p3, iv p4, iv p5, iv (own_n ii), iv (own_n jj), iv (own_n ki), iv (own_n kj), iv (own_n ko), .val (.double (own_e ko)), .second, rv b1, iv (own_n t00), iv (own_n t01), iv (own_n t10), iv (own_n t11), rv b22, iv 2, iv 3, iv ((own_n (own_r t01 t00))), iv ((own_n (own_r t11 t10))), iv (own_n r34), .unset, .unset, .unset, .unset, .unset]) rfl ?_
    refine XS.iload X34.here hx rfl (hb hby at_240) rfl ?_
    refine XS.istore X34.here hx rfl (hb hby at_242) rfl (l' := #[iv p0, iv p1, iv p2, iv p3, iv p4, iv p5, iv (own_n ii), iv (own_n jj), iv (own_n ki), iv (own_n kj), iv (own_n ko), .val (.double (own_e ko)), .second, rv b1, iv (own_n t00), iv (own_n t01), iv (own_n t10), iv (own_n t11), rv b22, iv 2, iv 3, iv ((own_n (own_r t01 t00))), iv ((own_n (own_r t11 t10))), iv (own_n r34), iv (own_n ki), .unset, .unset, .unset, .unset]) rfl ?_
    refine XT.bipushV X34.here hx rfl (8 : Int32) (hb hby at_244) (by decide) ?_
    show oS p e below T34 (mkF m 246 #[iv p0, iv p1, iv p2, iv p3, iv p4, iv p5, iv (own_n ii), iv (own_n jj), iv (own_n ki), iv (own_n kj), iv (own_n ko), .val (.double (own_e ko)), .second, rv b1, iv (own_n t00), iv (own_n t01), iv (own_n t10), iv (own_n t11), rv b22, iv 2, iv 3, iv ((own_n (own_r t01 t00))), iv ((own_n (own_r t11 t10))), iv (own_n r34), iv (own_n ki), .unset, .unset, .unset, .unset] [(.int 8)]) _
    refine XS.iload X34.here hx rfl (hb hby at_246) rfl ?_
    refine XS.isub X34.here hx rfl (hb hby at_248) rfl ?_
    show oS p e below T34 (mkF m 249 #[iv p0, iv p1, iv p2, iv p3, iv p4, iv p5, iv (own_n ii), iv (own_n jj), iv (own_n ki), iv (own_n kj), iv (own_n ko), .val (.double (own_e ko)), .second, rv b1, iv (own_n t00), iv (own_n t01), iv (own_n t10), iv (own_n t11), rv b22, iv 2, iv 3, iv ((own_n (own_r t01 t00))), iv ((own_n (own_r t11 t10))), iv (own_n r34), iv (own_n ki), .unset, .unset, .unset, .unset] [(.int ((8 : Int32) - (own_n ki)))]) _
    rw [own_sub8 hki8]
    show oS p e below T34 (mkF m 249 #[iv p0, iv p1, iv p2, iv p3, iv p4, iv p5, iv (own_n ii), iv (own_n jj), iv (own_n ki), iv (own_n kj), iv (own_n ko), .val (.double (own_e ko)), .second, rv b1, iv (own_n t00), iv (own_n t01), iv (own_n t10), iv (own_n t11), rv b22, iv 2, iv 3, iv ((own_n (own_r t01 t00))), iv ((own_n (own_r t11 t10))), iv (own_n r34), iv (own_n ki), .unset, .unset, .unset, .unset] [(.int (own_n (8 - ki)))]) _
    refine XS.istore X34.here hx rfl (hb hby at_249) rfl (l' := #[iv p0, iv p1, iv p2, iv p3, iv p4, iv p5, iv (own_n ii), iv (own_n jj), iv (own_n ki), iv (own_n kj), iv (own_n ko), .val (.double (own_e ko)), .second, rv b1, iv (own_n t00), iv (own_n t01), iv (own_n t10), iv (own_n t11), rv b22, iv 2, iv 3, iv ((own_n (own_r t01 t00))), iv ((own_n (own_r t11 t10))), iv (own_n r34), iv (own_n ki), iv ((own_n (8 - ki))), .unset, .unset, .unset]) rfl ?_
    refine XS.iload X34.here hx rfl (hb hby at_251) rfl ?_
    refine XS.istore X34.here hx rfl (hb hby at_253) rfl (l' := #[iv p0, iv p1, iv p2, iv p3, iv p4, iv p5, iv (own_n ii), iv (own_n jj), iv (own_n ki), iv (own_n kj), iv (own_n ko), .val (.double (own_e ko)), .second, rv b1, iv (own_n t00), iv (own_n t01), iv (own_n t10), iv (own_n t11), rv b22, iv 2, iv 3, iv ((own_n (own_r t01 t00))), iv ((own_n (own_r t11 t10))), iv (own_n r34), iv (own_n ki), iv ((own_n (8 - ki))), iv (own_n kj), .unset, .unset]) rfl ?_
    refine XT.bipushV X34.here hx rfl (8 : Int32) (hb hby at_255) (by decide) ?_
    refine XS.iload X34.here hx rfl (hb hby at_257) rfl ?_
    refine XS.isub X34.here hx rfl (hb hby at_259) rfl ?_
    show oS p e below T34 (mkF m 260 #[iv p0, iv p1, iv p2, iv p3, iv p4, iv p5, iv (own_n ii), iv (own_n jj), iv (own_n ki), iv (own_n kj), iv (own_n ko), .val (.double (own_e ko)), .second, rv b1, iv (own_n t00), iv (own_n t01), iv (own_n t10), iv (own_n t11), rv b22, iv 2, iv 3, iv ((own_n (own_r t01 t00))), iv ((own_n (own_r t11 t10))), iv (own_n r34), iv (own_n ki), iv ((own_n (8 - ki))), iv (own_n kj), .unset, .unset] [(.int ((8 : Int32) - (own_n kj)))]) _
    rw [own_sub8 hkj8]
    show oS p e below T34 (mkF m 260 #[iv p0, iv p1, iv p2, iv p3, iv p4, iv p5, iv (own_n ii), iv (own_n jj), iv (own_n ki), iv (own_n kj), iv (own_n ko), .val (.double (own_e ko)), .second, rv b1, iv (own_n t00), iv (own_n t01), iv (own_n t10), iv (own_n t11), rv b22, iv 2, iv 3, iv ((own_n (own_r t01 t00))), iv ((own_n (own_r t11 t10))), iv (own_n r34), iv (own_n ki), iv ((own_n (8 - ki))), iv (own_n kj), .unset, .unset] [(.int (own_n (8 - kj)))]) _
    refine XS.istore X34.here hx rfl (hb hby at_260) rfl (l' := #[iv p0, iv p1, iv p2, iv p3, iv p4, iv p5, iv (own_n ii), iv (own_n jj), iv (own_n ki), iv (own_n kj), iv (own_n ko), .val (.double (own_e ko)), .second, rv b1, iv (own_n t00), iv (own_n t01), iv (own_n t10), iv (own_n t11), rv b22, iv 2, iv 3, iv ((own_n (own_r t01 t00))), iv ((own_n (own_r t11 t10))), iv (own_n r34), iv (own_n ki), iv ((own_n (8 - ki))), iv (own_n kj), iv ((own_n (8 - kj))), .unset]) rfl ?_
    refine XS.iload X34.here hx rfl (hb hby at_262) rfl ?_
    refine XS.iload X34.here hx rfl (hb hby at_264) rfl ?_
    refine XS.imul X34.here hx rfl (hb hby at_266) rfl ?_
    show oS p e below T34 (mkF m 267 #[iv p0, iv p1, iv p2, iv p3, iv p4, iv p5, iv (own_n ii), iv (own_n jj), iv (own_n ki), iv (own_n kj), iv (own_n ko), .val (.double (own_e ko)), .second, rv b1, iv (own_n t00), iv (own_n t01), iv (own_n t10), iv (own_n t11), rv b22, iv 2, iv 3, iv ((own_n (own_r t01 t00))), iv ((own_n (own_r t11 t10))), iv (own_n r34), iv (own_n ki), iv ((own_n (8 - ki))), iv (own_n kj), iv ((own_n (8 - kj))), .unset] [(.int ((own_n t00) * (own_n (8 - ki))))]) _
    rw [own_nmul]
    show oS p e below T34 (mkF m 267 #[iv p0, iv p1, iv p2, iv p3, iv p4, iv p5, iv (own_n ii), iv (own_n jj), iv (own_n ki), iv (own_n kj), iv (own_n ko), .val (.double (own_e ko)), .second, rv b1, iv (own_n t00), iv (own_n t01), iv (own_n t10), iv (own_n t11), rv b22, iv 2, iv 3, iv ((own_n (own_r t01 t00))), iv ((own_n (own_r t11 t10))), iv (own_n r34), iv (own_n ki), iv ((own_n (8 - ki))), iv (own_n kj), iv ((own_n (8 - kj))), .unset] [(.int (own_n (t00 * (8 - ki))))]) _
    refine XS.iload X34.here hx rfl (hb hby at_267) rfl ?_
    refine XS.imul X34.here hx rfl (hb hby at_269) rfl ?_
    show oS p e below T34 (mkF m 270 #[iv p0, iv p1, iv p2, iv p3, iv p4, iv p5, iv (own_n ii), iv (own_n jj), iv (own_n ki), iv (own_n kj), iv (own_n ko), .val (.double (own_e ko)), .second, rv b1, iv (own_n t00), iv (own_n t01), iv (own_n t10), iv (own_n t11), rv b22, iv 2, iv 3, iv ((own_n (own_r t01 t00))), iv ((own_n (own_r t11 t10))), iv (own_n r34), iv (own_n ki), iv ((own_n (8 - ki))), iv (own_n kj), iv ((own_n (8 - kj))), .unset] [(.int ((own_n (t00 * (8 - ki))) * (own_n (8 - kj))))]) _
    rw [own_nmul]
    show oS p e below T34 (mkF m 270 #[iv p0, iv p1, iv p2, iv p3, iv p4, iv p5, iv (own_n ii), iv (own_n jj), iv (own_n ki), iv (own_n kj), iv (own_n ko), .val (.double (own_e ko)), .second, rv b1, iv (own_n t00), iv (own_n t01), iv (own_n t10), iv (own_n t11), rv b22, iv 2, iv 3, iv ((own_n (own_r t01 t00))), iv ((own_n (own_r t11 t10))), iv (own_n r34), iv (own_n ki), iv ((own_n (8 - ki))), iv (own_n kj), iv ((own_n (8 - kj))), .unset] [(.int (own_n ((t00 * (8 - ki)) * (8 - kj))))]) _
    refine XS.iload X34.here hx rfl (hb hby at_270) rfl ?_
    refine XS.iload X34.here hx rfl (hb hby at_272) rfl ?_
    show oS p e below T34 (mkF m 274 #[iv p0, iv p1, iv p2, iv p3, iv p4, iv p5, iv (own_n ii), iv (own_n jj), iv (own_n ki), iv (own_n kj), iv (own_n ko), .val (.double (own_e ko)), .second, rv b1, iv (own_n t00), iv (own_n t01), iv (own_n t10), iv (own_n t11), rv b22, iv 2, iv 3, iv ((own_n (own_r t01 t00))), iv ((own_n (own_r t11 t10))), iv (own_n r34), iv (own_n ki), iv ((own_n (8 - ki))), iv (own_n kj), iv ((own_n (8 - kj))), .unset] [(.int (own_n (8 - ki))), (.int (own_n t01)), (.int (own_n ((t00 * (8 - ki)) * (8 - kj))))]) _
    refine XS.imul X34.here hx rfl (hb hby at_274) rfl ?_
    show oS p e below T34 (mkF m 275 #[iv p0, iv p1, iv p2, iv p3, iv p4, iv p5, iv (own_n ii), iv (own_n jj), iv (own_n ki), iv (own_n kj), iv (own_n ko), .val (.double (own_e ko)), .second, rv b1, iv (own_n t00), iv (own_n t01), iv (own_n t10), iv (own_n t11), rv b22, iv 2, iv 3, iv ((own_n (own_r t01 t00))), iv ((own_n (own_r t11 t10))), iv (own_n r34), iv (own_n ki), iv ((own_n (8 - ki))), iv (own_n kj), iv ((own_n (8 - kj))), .unset] [(.int ((own_n t01) * (own_n (8 - ki)))), (.int (own_n ((t00 * (8 - ki)) * (8 - kj))))]) _
    rw [own_nmul]
    show oS p e below T34 (mkF m 275 #[iv p0, iv p1, iv p2, iv p3, iv p4, iv p5, iv (own_n ii), iv (own_n jj), iv (own_n ki), iv (own_n kj), iv (own_n ko), .val (.double (own_e ko)), .second, rv b1, iv (own_n t00), iv (own_n t01), iv (own_n t10), iv (own_n t11), rv b22, iv 2, iv 3, iv ((own_n (own_r t01 t00))), iv ((own_n (own_r t11 t10))), iv (own_n r34), iv (own_n ki), iv ((own_n (8 - ki))), iv (own_n kj), iv ((own_n (8 - kj))), .unset] [(.int (own_n (t01 * (8 - ki)))), (.int (own_n ((t00 * (8 - ki)) * (8 - kj))))]) _
    refine XS.iload X34.here hx rfl (hb hby at_275) rfl ?_
    refine XS.imul X34.here hx rfl (hb hby at_277) rfl ?_
    show oS p e below T34 (mkF m 278 #[iv p0, iv p1, iv p2, iv p3, iv p4, iv p5, iv (own_n ii), iv (own_n jj), iv (own_n ki), iv (own_n kj), iv (own_n ko), .val (.double (own_e ko)), .second, rv b1, iv (own_n t00), iv (own_n t01), iv (own_n t10), iv (own_n t11), rv b22, iv 2, iv 3, iv ((own_n (own_r t01 t00))), iv ((own_n (own_r t11 t10))), iv (own_n r34), iv (own_n ki), iv ((own_n (8 - ki))), iv (own_n kj), iv ((own_n (8 - kj))), .unset] [(.int ((own_n (t01 * (8 - ki))) * (own_n kj))), (.int (own_n ((t00 * (8 - ki)) * (8 - kj))))]) _
    rw [own_nmul]
    show oS p e below T34 (mkF m 278 #[iv p0, iv p1, iv p2, iv p3, iv p4, iv p5, iv (own_n ii), iv (own_n jj), iv (own_n ki), iv (own_n kj), iv (own_n ko), .val (.double (own_e ko)), .second, rv b1, iv (own_n t00), iv (own_n t01), iv (own_n t10), iv (own_n t11), rv b22, iv 2, iv 3, iv ((own_n (own_r t01 t00))), iv ((own_n (own_r t11 t10))), iv (own_n r34), iv (own_n ki), iv ((own_n (8 - ki))), iv (own_n kj), iv ((own_n (8 - kj))), .unset] [(.int (own_n ((t01 * (8 - ki)) * kj))), (.int (own_n ((t00 * (8 - ki)) * (8 - kj))))]) _
    refine XS.iadd X34.here hx rfl (hb hby at_278) rfl ?_
    show oS p e below T34 (mkF m 279 #[iv p0, iv p1, iv p2, iv p3, iv p4, iv p5, iv (own_n ii), iv (own_n jj), iv (own_n ki), iv (own_n kj), iv (own_n ko), .val (.double (own_e ko)), .second, rv b1, iv (own_n t00), iv (own_n t01), iv (own_n t10), iv (own_n t11), rv b22, iv 2, iv 3, iv ((own_n (own_r t01 t00))), iv ((own_n (own_r t11 t10))), iv (own_n r34), iv (own_n ki), iv ((own_n (8 - ki))), iv (own_n kj), iv ((own_n (8 - kj))), .unset] [(.int ((own_n ((t00 * (8 - ki)) * (8 - kj))) + (own_n ((t01 * (8 - ki)) * kj))))]) _
    rw [own_nplus]
    show oS p e below T34 (mkF m 279 #[iv p0, iv p1, iv p2, iv p3, iv p4, iv p5, iv (own_n ii), iv (own_n jj), iv (own_n ki), iv (own_n kj), iv (own_n ko), .val (.double (own_e ko)), .second, rv b1, iv (own_n t00), iv (own_n t01), iv (own_n t10), iv (own_n t11), rv b22, iv 2, iv 3, iv ((own_n (own_r t01 t00))), iv ((own_n (own_r t11 t10))), iv (own_n r34), iv (own_n ki), iv ((own_n (8 - ki))), iv (own_n kj), iv ((own_n (8 - kj))), .unset] [(.int (own_n (((t00 * (8 - ki)) * (8 - kj)) + ((t01 * (8 - ki)) * kj))))]) _
    refine XS.iload X34.here hx rfl (hb hby at_279) rfl ?_
    refine XS.iload X34.here hx rfl (hb hby at_281) rfl ?_
    refine XS.imul X34.here hx rfl (hb hby at_283) rfl ?_
    show oS p e below T34 (mkF m 284 #[iv p0, iv p1, iv p2, iv p3, iv p4, iv p5, iv (own_n ii), iv (own_n jj), iv (own_n ki), iv (own_n kj), iv (own_n ko), .val (.double (own_e ko)), .second, rv b1, iv (own_n t00), iv (own_n t01), iv (own_n t10), iv (own_n t11), rv b22, iv 2, iv 3, iv ((own_n (own_r t01 t00))), iv ((own_n (own_r t11 t10))), iv (own_n r34), iv (own_n ki), iv ((own_n (8 - ki))), iv (own_n kj), iv ((own_n (8 - kj))), .unset] [(.int ((own_n t10) * (own_n ki))), (.int (own_n (((t00 * (8 - ki)) * (8 - kj)) + ((t01 * (8 - ki)) * kj))))]) _
    show oS p e below T34 (mkF m 284 #[iv p0, iv p1, iv p2, iv p3, iv p4, iv p5, iv (own_n ii), iv (own_n jj), iv (own_n ki), iv (own_n kj), iv (own_n ko), .val (.double (own_e ko)), .second, rv b1, iv (own_n t00), iv (own_n t01), iv (own_n t10), iv (own_n t11), rv b22, iv 2, iv 3, iv ((own_n (own_r t01 t00))), iv ((own_n (own_r t11 t10))), iv (own_n r34), iv (own_n ki), iv ((own_n (8 - ki))), iv (own_n kj), iv ((own_n (8 - kj))), .unset] [(.int ((own_n t10) * (own_n ki))), (.int (own_n (((t00 * (8 - ki)) * (8 - kj)) + ((t01 * (8 - ki)) * kj))))]) _
    rw [own_nmul]
    show oS p e below T34 (mkF m 284 #[iv p0, iv p1, iv p2, iv p3, iv p4, iv p5, iv (own_n ii), iv (own_n jj), iv (own_n ki), iv (own_n kj), iv (own_n ko), .val (.double (own_e ko)), .second, rv b1, iv (own_n t00), iv (own_n t01), iv (own_n t10), iv (own_n t11), rv b22, iv 2, iv 3, iv ((own_n (own_r t01 t00))), iv ((own_n (own_r t11 t10))), iv (own_n r34), iv (own_n ki), iv ((own_n (8 - ki))), iv (own_n kj), iv ((own_n (8 - kj))), .unset] [(.int (own_n (t10 * ki))), (.int (own_n (((t00 * (8 - ki)) * (8 - kj)) + ((t01 * (8 - ki)) * kj))))]) _
    refine XS.iload X34.here hx rfl (hb hby at_284) rfl ?_
    refine XS.imul X34.here hx rfl (hb hby at_286) rfl ?_
    show oS p e below T34 (mkF m 287 #[iv p0, iv p1, iv p2, iv p3, iv p4, iv p5, iv (own_n ii), iv (own_n jj), iv (own_n ki), iv (own_n kj), iv (own_n ko), .val (.double (own_e ko)), .second, rv b1, iv (own_n t00), iv (own_n t01), iv (own_n t10), iv (own_n t11), rv b22, iv 2, iv 3, iv ((own_n (own_r t01 t00))), iv ((own_n (own_r t11 t10))), iv (own_n r34), iv (own_n ki), iv ((own_n (8 - ki))), iv (own_n kj), iv ((own_n (8 - kj))), .unset] [(.int ((own_n (t10 * ki)) * (own_n (8 - kj)))), (.int (own_n (((t00 * (8 - ki)) * (8 - kj)) + ((t01 * (8 - ki)) * kj))))]) _
    rw [own_nmul]
    show oS p e below T34 (mkF m 287 #[iv p0, iv p1, iv p2, iv p3, iv p4, iv p5, iv (own_n ii), iv (own_n jj), iv (own_n ki), iv (own_n kj), iv (own_n ko), .val (.double (own_e ko)), .second, rv b1, iv (own_n t00), iv (own_n t01), iv (own_n t10), iv (own_n t11), rv b22, iv 2, iv 3, iv ((own_n (own_r t01 t00))), iv ((own_n (own_r t11 t10))), iv (own_n r34), iv (own_n ki), iv ((own_n (8 - ki))), iv (own_n kj), iv ((own_n (8 - kj))), .unset] [(.int (own_n ((t10 * ki) * (8 - kj)))), (.int (own_n (((t00 * (8 - ki)) * (8 - kj)) + ((t01 * (8 - ki)) * kj))))]) _
    refine XS.iadd X34.here hx rfl (hb hby at_287) rfl ?_
    show oS p e below T34 (mkF m 288 #[iv p0, iv p1, iv p2, iv p3, iv p4, iv p5, iv (own_n ii), iv (own_n jj), iv (own_n ki), iv (own_n kj), iv (own_n ko), .val (.double (own_e ko)), .second, rv b1, iv (own_n t00), iv (own_n t01), iv (own_n t10), iv (own_n t11), rv b22, iv 2, iv 3, iv ((own_n (own_r t01 t00))), iv ((own_n (own_r t11 t10))), iv (own_n r34), iv (own_n ki), iv ((own_n (8 - ki))), iv (own_n kj), iv ((own_n (8 - kj))), .unset] [(.int ((own_n (((t00 * (8 - ki)) * (8 - kj)) + ((t01 * (8 - ki)) * kj))) + (own_n ((t10 * ki) * (8 - kj)))))]) _
    rw [own_nplus]
    show oS p e below T34 (mkF m 288 #[iv p0, iv p1, iv p2, iv p3, iv p4, iv p5, iv (own_n ii), iv (own_n jj), iv (own_n ki), iv (own_n kj), iv (own_n ko), .val (.double (own_e ko)), .second, rv b1, iv (own_n t00), iv (own_n t01), iv (own_n t10), iv (own_n t11), rv b22, iv 2, iv 3, iv ((own_n (own_r t01 t00))), iv ((own_n (own_r t11 t10))), iv (own_n r34), iv (own_n ki), iv ((own_n (8 - ki))), iv (own_n kj), iv ((own_n (8 - kj))), .unset] [(.int (own_n ((((t00 * (8 - ki)) * (8 - kj)) + ((t01 * (8 - ki)) * kj)) + ((t10 * ki) * (8 - kj)))))]) _
    refine XS.iload X34.here hx rfl (hb hby at_288) rfl ?_
    refine XS.iload X34.here hx rfl (hb hby at_290) rfl ?_
    refine XS.imul X34.here hx rfl (hb hby at_292) rfl ?_
    show oS p e below T34 (mkF m 293 #[iv p0, iv p1, iv p2, iv p3, iv p4, iv p5, iv (own_n ii), iv (own_n jj), iv (own_n ki), iv (own_n kj), iv (own_n ko), .val (.double (own_e ko)), .second, rv b1, iv (own_n t00), iv (own_n t01), iv (own_n t10), iv (own_n t11), rv b22, iv 2, iv 3, iv ((own_n (own_r t01 t00))), iv ((own_n (own_r t11 t10))), iv (own_n r34), iv (own_n ki), iv ((own_n (8 - ki))), iv (own_n kj), iv ((own_n (8 - kj))), .unset] [(.int ((own_n t11) * (own_n ki))), (.int (own_n ((((t00 * (8 - ki)) * (8 - kj)) + ((t01 * (8 - ki)) * kj)) + ((t10 * ki) * (8 - kj)))))]) _
    rw [own_nmul]
    show oS p e below T34 (mkF m 293 #[iv p0, iv p1, iv p2, iv p3, iv p4, iv p5, iv (own_n ii), iv (own_n jj), iv (own_n ki), iv (own_n kj), iv (own_n ko), .val (.double (own_e ko)), .second, rv b1, iv (own_n t00), iv (own_n t01), iv (own_n t10), iv (own_n t11), rv b22, iv 2, iv 3, iv ((own_n (own_r t01 t00))), iv ((own_n (own_r t11 t10))), iv (own_n r34), iv (own_n ki), iv ((own_n (8 - ki))), iv (own_n kj), iv ((own_n (8 - kj))), .unset] [(.int (own_n (t11 * ki))), (.int (own_n ((((t00 * (8 - ki)) * (8 - kj)) + ((t01 * (8 - ki)) * kj)) + ((t10 * ki) * (8 - kj)))))]) _
    refine XS.iload X34.here hx rfl (hb hby at_293) rfl ?_
    refine XS.imul X34.here hx rfl (hb hby at_295) rfl ?_
    show oS p e below T34 (mkF m 296 #[iv p0, iv p1, iv p2, iv p3, iv p4, iv p5, iv (own_n ii), iv (own_n jj), iv (own_n ki), iv (own_n kj), iv (own_n ko), .val (.double (own_e ko)), .second, rv b1, iv (own_n t00), iv (own_n t01), iv (own_n t10), iv (own_n t11), rv b22, iv 2, iv 3, iv ((own_n (own_r t01 t00))), iv ((own_n (own_r t11 t10))), iv (own_n r34), iv (own_n ki), iv ((own_n (8 - ki))), iv (own_n kj), iv ((own_n (8 - kj))), .unset] [(.int ((own_n (t11 * ki)) * (own_n kj))), (.int (own_n ((((t00 * (8 - ki)) * (8 - kj)) + ((t01 * (8 - ki)) * kj)) + ((t10 * ki) * (8 - kj)))))]) _
    rw [own_nmul]
    show oS p e below T34 (mkF m 296 #[iv p0, iv p1, iv p2, iv p3, iv p4, iv p5, iv (own_n ii), iv (own_n jj), iv (own_n ki), iv (own_n kj), iv (own_n ko), .val (.double (own_e ko)), .second, rv b1, iv (own_n t00), iv (own_n t01), iv (own_n t10), iv (own_n t11), rv b22, iv 2, iv 3, iv ((own_n (own_r t01 t00))), iv ((own_n (own_r t11 t10))), iv (own_n r34), iv (own_n ki), iv ((own_n (8 - ki))), iv (own_n kj), iv ((own_n (8 - kj))), .unset] [(.int (own_n ((t11 * ki) * kj))), (.int (own_n ((((t00 * (8 - ki)) * (8 - kj)) + ((t01 * (8 - ki)) * kj)) + ((t10 * ki) * (8 - kj)))))]) _
    refine XS.iadd X34.here hx rfl (hb hby at_296) rfl ?_
    show oS p e below T34 (mkF m 297 #[iv p0, iv p1, iv p2, iv p3, iv p4, iv p5, iv (own_n ii), iv (own_n jj), iv (own_n ki), iv (own_n kj), iv (own_n ko), .val (.double (own_e ko)), .second, rv b1, iv (own_n t00), iv (own_n t01), iv (own_n t10), iv (own_n t11), rv b22, iv 2, iv 3, iv ((own_n (own_r t01 t00))), iv ((own_n (own_r t11 t10))), iv (own_n r34), iv (own_n ki), iv ((own_n (8 - ki))), iv (own_n kj), iv ((own_n (8 - kj))), .unset] [(.int ((own_n ((((t00 * (8 - ki)) * (8 - kj)) + ((t01 * (8 - ki)) * kj)) + ((t10 * ki) * (8 - kj)))) + (own_n ((t11 * ki) * kj))))]) _
    rw [own_nplus]
    show oS p e below T34 (mkF m 297 #[iv p0, iv p1, iv p2, iv p3, iv p4, iv p5, iv (own_n ii), iv (own_n jj), iv (own_n ki), iv (own_n kj), iv (own_n ko), .val (.double (own_e ko)), .second, rv b1, iv (own_n t00), iv (own_n t01), iv (own_n t10), iv (own_n t11), rv b22, iv 2, iv 3, iv ((own_n (own_r t01 t00))), iv ((own_n (own_r t11 t10))), iv (own_n r34), iv (own_n ki), iv ((own_n (8 - ki))), iv (own_n kj), iv ((own_n (8 - kj))), .unset] [(.int (own_n (own_N ki kj t00 t01 t10 t11)))]) _
    refine XS.istore X34.here hx rfl (hb hby at_297) rfl (l' := #[iv p0, iv p1, iv p2, iv p3, iv p4, iv p5, iv (own_n ii), iv (own_n jj), iv (own_n ki), iv (own_n kj), iv (own_n ko), .val (.double (own_e ko)), .second, rv b1, iv (own_n t00), iv (own_n t01), iv (own_n t10), iv (own_n t11), rv b22, iv 2, iv 3, iv ((own_n (own_r t01 t00))), iv ((own_n (own_r t11 t10))), iv (own_n r34), iv (own_n ki), iv ((own_n (8 - ki))), iv (own_n kj), iv ((own_n (8 - kj))), iv ((own_n (own_N ki kj t00 t01 t10 t11)))]) rfl ?_
    refine XS.aload X34.here hx rfl (hb hby at_299) rfl rfl ?_
    refine XS.iload X34.here hx rfl (hb hby at_301) rfl ?_
    refine XS.aload X34.here hx rfl (hb hby at_303) rfl rfl ?_
    refine st35 _ ?_
    show oS p e below T35 (mkF m 308 #[iv p0, iv p1, iv p2, iv p3, iv p4, iv p5, iv (own_n ii), iv (own_n jj), iv (own_n ki), iv (own_n kj), iv (own_n ko), .val (.double (own_e ko)), .second, rv b1, iv (own_n t00), iv (own_n t01), iv (own_n t10), iv (own_n t11), rv b22, iv 2, iv 3, iv ((own_n (own_r t01 t00))), iv ((own_n (own_r t11 t10))), iv (own_n r34), iv (own_n ki), iv ((own_n (8 - ki))), iv (own_n kj), iv ((own_n (8 - kj))), iv ((own_n (own_N ki kj t00 t01 t10 t11)))] [(.double y35)]) _
    refine XS.iload X35.here hx rfl (hb hby at_308) rfl ?_
    refine XS.i2dS X35.here hx rfl (hb hby at_310) rfl rfl ?_
    refine X35.ldc2DoubleC hx hown (mvT hZ (hw _ (own_w 132 rfl))) (g := (mkF m 311 #[iv p0, iv p1, iv p2, iv p3, iv p4, iv p5, iv (own_n ii), iv (own_n jj), iv (own_n ki), iv (own_n kj), iv (own_n ko), .val (.double (own_e ko)), .second, rv b1, iv (own_n t00), iv (own_n t01), iv (own_n t10), iv (own_n t11), rv b22, iv 2, iv 3, iv ((own_n (own_r t01 t00))), iv ((own_n (own_r t11 t10))), iv (own_n r34), iv (own_n ki), iv ((own_n (8 - ki))), iv (own_n kj), iv ((own_n (8 - kj))), iv ((own_n (own_N ki kj t00 t01 t10 t11)))] [(.double (FP.i2d (own_n (own_N ki kj t00 t01 t10 t11)))), (.double y35)])) rfl (hb hby at_311) _ ?_
    refine XS.ddivS X35.here hx rfl (hb hby at_314) rfl (own_nnD (own_fD (k := (own_N ki kj t00 t01 t10 t11)) (own_Nb hki8 hkj8 b00 b01 b10 b11))) rfl ?_
    show oS p e below T35 (mkF m 315 #[iv p0, iv p1, iv p2, iv p3, iv p4, iv p5, iv (own_n ii), iv (own_n jj), iv (own_n ki), iv (own_n kj), iv (own_n ko), .val (.double (own_e ko)), .second, rv b1, iv (own_n t00), iv (own_n t01), iv (own_n t10), iv (own_n t11), rv b22, iv 2, iv 3, iv ((own_n (own_r t01 t00))), iv ((own_n (own_r t11 t10))), iv (own_n r34), iv (own_n ki), iv ((own_n (8 - ki))), iv (own_n kj), iv ((own_n (8 - kj))), iv ((own_n (own_N ki kj t00 t01 t10 t11)))] [(.double (FP.ddiv (FP.i2d (own_n (own_N ki kj t00 t01 t10 t11))) (4634204016564240384 : UInt64))), (.double y35)]) _
    skip
    show oS p e below T35 (mkF m 315 #[iv p0, iv p1, iv p2, iv p3, iv p4, iv p5, iv (own_n ii), iv (own_n jj), iv (own_n ki), iv (own_n kj), iv (own_n ko), .val (.double (own_e ko)), .second, rv b1, iv (own_n t00), iv (own_n t01), iv (own_n t10), iv (own_n t11), rv b22, iv 2, iv 3, iv ((own_n (own_r t01 t00))), iv ((own_n (own_r t11 t10))), iv (own_n r34), iv (own_n ki), iv ((own_n (8 - ki))), iv (own_n kj), iv ((own_n (8 - kj))), iv ((own_n (own_N ki kj t00 t01 t10 t11)))] [(.double (own_f (own_N ki kj t00 t01 t10 t11))), (.double y35)]) _
    refine XS.dcmpS X35.here hx rfl (hb hby at_315) rfl rfl ?_
    refine XS.ifNo X35.here hx rfl (hb hby at_316) rfl (XT.i0_ne_f (own_ceq (by rw [hm34] at Dy35; exact Dy35) (by rw [← own_NI hki8 hkj8]; exact own_fD (own_Nb hki8 hkj8 b00 b01 b10 b11)))) ?_
    refine XT.iconstV X35.here hx rfl (1 : Int32) (hb hby at_319) (by decide) ?_
    refine XS.goto X35.here hx rfl (pc0 := 320) (pc' := 324) rfl (hb hby at_320) (by decide) (by decide) ?_
    exact kz)
  obtain ⟨fs, hr, hrun, hended, hW, hsame⟩ := X35.leave (v := some (.int 1)) (fun h => by rw [Bd.returns] at h; cases h)
  refine ⟨_, _, pre0 _ (S36 _ ?_), hrun, hended, _, _, rfl, ?_, ⟨_, rfl⟩, hW, hsame.mono (by decide) (by decide)⟩
  · exact retN X35 hx (t := .boolean) Bd.returns (by simp) (hb hby at_324) hr
  · show Qrm0 Z p0 p1 p2 p3 p4 p5 ii jj ki kj ko t00 t01 t10 t11 h0 n0 _ T35.heap _
    rw [e35]
    exact ⟨rfl, N35⟩
set_option maxRecDepth 65536 in
set_option maxHeartbeats 40000000 in
theorem comes_1 {Post : Tables → Env → Array Value → State → Outcome → State → Prop} (hpost : ∀ tb e args s v u, (limb_1_1.after args s (.returned v) u = true ∧ limb_1_2.after args s (.returned v) u = true ∧ True) → FrameEnd s (.returned v) u (Jvm.fieldLocs frame_1_writes args s ++ Jvm.arrayLocs frame_1_arrays args s ++ Jvm.staticLocs frame_1_statics s) 64 19008 → Post tb e args s (.returned v) u) :
    ArmFor flags0 classFile x code maxLocals ret World_1 tables_1 room_1 Calls_1 rest_1 Pre_1 Post := by
  intro l hfl _ _ p e ha hc hk s m args below hf hA hF happ hP
  obtain ⟨hcalls, hrest, hpre⟩ := hP
  obtain ⟨-, -, -, hnamed, -, -, -, hat⟩ := (Spec.applies_iff hf).mp happ
  obtain ⟨hg, hn⟩ := and_e (Cond.before_iff.mp (show (Jvm.Cond.and given_1 narrow_1).before args s = true from hpre))
  obtain ⟨g0, r0⟩ := and_e hg
  obtain ⟨g1, r1⟩ := and_e r0
  obtain ⟨g2, r2⟩ := and_e r1
  obtain ⟨g3, r3⟩ := and_e r2
  obtain ⟨g4, r4⟩ := and_e r3
  obtain ⟨g5, r5⟩ := and_e r4
  obtain ⟨w0, w1, w2, w3, w4, w5, rfl⟩ : ∃ w0 w1 w2 w3 w4 w5 : Value, args = #[w0, w1, w2, w3, w4, w5] := by
    have hs : args.size = 6 := by simpa [Cond.value, given_1] using g0
    obtain ⟨L⟩ := args
    match L, hs with
    | [w0, w1, w2, w3, w4, w5], _ => exact ⟨w0, w1, w2, w3, w4, w5, rfl⟩
  have hw := fun d (hd : d ∈ tables_1) => atoms_spec (ws := Jvm.Cond.code x code maxLocals ret :: tables_1) hat d (List.mem_cons_of_mem _ hd)
  have hfit : Fit s := fun {y c} hc i hi => by
    obtain ⟨ha, rfl⟩ := Array.getElem?_eq_some_iff.mp hc
    have q := List.all_eq_true.mp ((Array.all_eq_true_iff_forall_mem.mp hF) _ (Array.getElem_mem ha)) i (List.mem_range.mpr hi)
    simpa [Array.getElem?_eq_getElem hi] using q
  obtain ⟨i0, ei0⟩ := is_v g1
  obtain rfl : w0 = (.int i0) := Option.some.inj ei0
  obtain ⟨i1, ei1⟩ := is_v g2
  obtain rfl : w1 = (.int i1) := Option.some.inj ei1
  obtain ⟨i2, ei2⟩ := is_v g3
  obtain rfl : w2 = (.int i2) := Option.some.inj ei2
  obtain ⟨i3, ei3⟩ := is_v g4
  obtain rfl : w3 = (.int i3) := Option.some.inj ei3
  obtain ⟨i4, ei4⟩ := is_v g5
  obtain rfl : w4 = (.int i4) := Option.some.inj ei4
  obtain ⟨i5, ei5⟩ := is_v r5
  obtain rfl : w5 = (.int i5) := Option.some.inj ei5
  obtain ⟨ii, hii, hi⟩ := own_MN i0 7 3 (by decide) (by decide)
  obtain ⟨rr, hrr, hr7⟩ := own_PN i1 7 7 rfl (by decide) (by decide)
  obtain ⟨jj, hjj, hne, hj⟩ := own_J hii hrr
  rw [← hr7] at hj
  obtain ⟨ki, hki8, hki⟩ := own_PN i2 9 9 rfl (by decide) (by decide)
  obtain ⟨kj, hkj8, hkj⟩ := own_PN i3 9 9 rfl (by decide) (by decide)
  obtain ⟨ko, hko8, hko⟩ := own_PN i4 9 9 rfl (by decide) (by decide)
  obtain ⟨t00, b00, ht00⟩ := own_MN i5 1 1 (by decide) (by decide)
  obtain ⟨t01, b01, ht01⟩ := own_MN (i5 >>> ((1 : Int32) &&& 31)) 1 1 (by decide) (by decide)
  obtain ⟨t10, b10, ht10⟩ := own_MN (i5 >>> ((2 : Int32) &&& 31)) 1 1 (by decide) (by decide)
  obtain ⟨t11, b11, ht11⟩ := own_MN (i5 >>> ((3 : Int32) &&& 31)) 1 1 (by decide) (by decide)
  obtain ⟨n, o, h1, h2, h3, _, L, rfl, ⟨rfl, N⟩, hq⟩ := rm0 l s _ hw tables_1 i0 i1 i2 i3 i4 i5 ii jj ki kj ko t00 t01 t10 t11 s.heap s.heap.size (Nat.le_refl _) hi hj hki hkj hko ht00 ht01 ht10 ht11 hii hjj hne (by omega) (by omega) (by omega) b00 b01 b10 b11 p e ha hc hk s m _ below hf ((Spec.applies_iff_loose hf).mp happ).1 ⟨rfl, State.Warmed39.refl s, rfl⟩ trivial
  refine ⟨n, _, h1, h2, h3, hpost _ _ _ _ _ _ ⟨Cond.after_iff.mpr rfl, Cond.after_iff.mpr (eq_i res_at (Term.int_eval (1)) rfl), trivial⟩ ⟨hq.1, hq.2.1, (hq.2.2.sift fun y hy => Or.inr (N y hy)).mono (by decide) (by decide)⟩⟩
theorem main_1_1 : Claimed_1_1 := comes_1 fun _ _ _ _ _ _ h hF => ⟨h.1, hF⟩
theorem main_1_2 : Claimed_1_2 := comes_1 fun _ _ _ _ _ _ h hF => ⟨h.2.1, hF⟩
end Jvm.Pilot.@@N@@
namespace Jvm.Pilot.@@N@@
open Jvm Jvm.ClassFile Sem Op Lib Jvm.Free Jvm.Stand Jvm.Pilot.@@N@@.Jvm.D
/-! MADE BY PROGRAM (witnessworld.py) out of the Statement's table words and the real class files: 14 classes; the members and pool entries that the words name. The judged class is class 1, her method 1. -/
namespace start1
open Jvm.ClassFile
def u (s : String) : CpInfo := .utf8 (stringToUtf16 s)
/-- a pool by its gaps: so many unusable entries, then the entry; so many at the end -/
def gap : Nat → List CpInfo → List CpInfo
  | 0, r => r
  | n + 1, r => .unusable :: gap n r
def poolList (es : List (Nat × CpInfo)) (last : Nat) : List CpInfo := es.foldr (fun e r => gap e.1 (e.2 :: r)) (gap last [])
def pool (es : List (Nat × CpInfo)) (last : Nat) : Array CpInfo := ⟨poolList es last⟩
def fileOf (pool : Array CpInfo) (this : Nat) (attrs : Array Attribute := #[]) (ms : Array MethodInfo := #[]) (fl : Nat := 33) (sup : Nat := 0) (ifs : Array Nat := #[]) (fds : Array FieldInfo := #[]) : ClassFile where
  minorVersion := 0
  majorVersion := 65
  constantPool := pool
  accessFlags := fl
  thisClass := this
  superClass := sup
  interfaces := ifs
  fields := fds
  methods := ms
  attributes := attrs
def plain (name : String) (sup : Option ClassId) : Class where
  name := name
  kind := .ordinary
  loader := none
  accessFlags := 33
  super := sup
  interfaces := #[]
  cf := none
  fields := #[]
  methods := #[]
  instanceTypes := #[]
  staticTypes := #[]
  resolved := #[]
  callSites := []
  init := .initialized
  statics := none
  mirror := none

def pool0 : Array CpInfo := pool [(5, u "<init>"), (0, u "()V"), (1, .class_ 10), (1, u "java/lang/Object")] 113

def k0c0 : Code := { maxStack := 0, maxLocals := 1, code := object_method_1_code, exceptionTable := #[], attributes := #[] }
def k0m0 : Method := { name := "<init>", desc := "()V", sig := { parameters := [], returnType := none }, accessFlags := 1, code := some k0c0 }
/-- java/lang/Object -/
def k0 : Class := { plain "java/lang/Object" none with
  accessFlags := 33
  interfaces := #[]
  cf := some (fileOf pool0 8 #[] #[{ accessFlags := 1, nameIndex := 5, descriptorIndex := 6, attributes := #[] }] 33 0 #[] #[])
  fields := #[]
  methods := #[k0m0]
  instanceTypes := #[]
  staticTypes := #[]
  resolved := Array.replicate 124 none
  statics := none }

def pool1 : Array CpInfo := pool [(2, .class_ 4), (0, .nameAndType 5 6), (0, u "java/lang/Object"), (0, u "<init>"), (0, u "()V"), (0, .integer 2147483647), (0, .double 4620693217682128896), (1, .class_ 11), (0, u "com/example/prolong/prolong/tree/DecisionDiagram"), (0, .methodref 10 3), (0, .methodref 10 14), (0, .nameAndType 15 16), (0, u "variable"), (0, u "(I)I"), (0, .methodref 18 19), (0, .class_ 20), (0, .nameAndType 21 16), (0, u "com/example/prolong/prolong/tree/DecisionDiagramProbabilityPinLaw"), (0, u "leaf"), (0, .methodref 10 23), (0, .nameAndType 24 25), (0, u "ite"), (0, u "(III)I"), (0, .methodref 10 27), (0, .nameAndType 28 29), (0, u "probability"), (0, u "(I[D)D"), (0, .double 4634204016564240384), (3, u "law"), (0, u "(IIIIII)Z")] 5

def k1m0 : Method := { name := "<init>", desc := "()V", sig := { parameters := [], returnType := none }, accessFlags := 1, code := none }
def k1c1 : Code := { maxStack := 6, maxLocals := 29, code := code, exceptionTable := #[], attributes := #[] }
def k1m1 : Method := { name := "law", desc := "(IIIIII)Z", sig := { parameters := [.int, .int, .int, .int, .int, .int], returnType := some .boolean }, accessFlags := 9, code := some k1c1 }
def k1c2 : Code := { maxStack := 2, maxLocals := 1, code := method_3_code, exceptionTable := #[], attributes := #[] }
def k1m2 : Method := { name := "leaf", desc := "(I)I", sig := { parameters := [.int], returnType := some .int }, accessFlags := 10, code := some k1c2 }
/-- com/example/prolong/prolong/tree/DecisionDiagramProbabilityPinLaw -/
def k1 : Class := { plain "com/example/prolong/prolong/tree/DecisionDiagramProbabilityPinLaw" (some 0) with
  accessFlags := 49
  interfaces := #[]
  cf := some (fileOf pool1 18 #[] #[{ accessFlags := 1, nameIndex := 5, descriptorIndex := 6, attributes := #[] }, { accessFlags := 9, nameIndex := 34, descriptorIndex := 35, attributes := #[] }, { accessFlags := 10, nameIndex := 21, descriptorIndex := 16, attributes := #[] }] 49 2 #[] #[])
  fields := #[]
  methods := #[k1m0, k1m1, k1m2]
  instanceTypes := #[]
  staticTypes := #[]
  resolved := Array.replicate 41 none
  statics := none }

def pool2 : Array CpInfo := pool [(3, .methodref 4 5), (0, .class_ 6), (0, .nameAndType 7 8), (0, u "java/lang/Object"), (0, u "<init>"), (0, u "()V"), (0, .class_ 10), (0, u "com/example/prolong/prolong/tree/DecisionDiagram"), (0, .fieldref 9 12), (0, .nameAndType 13 14), (0, u "variable"), (0, u "[I"), (0, .fieldref 9 16), (0, .nameAndType 17 14), (0, u "low"), (0, .fieldref 9 19), (0, .nameAndType 20 14), (0, u "high"), (0, .methodref 9 22), (0, .nameAndType 23 24), (0, u "emptyTable"), (0, u "(I)[I"), (0, .fieldref 9 26), (0, .nameAndType 27 14), (0, u "unique"), (0, .fieldref 9 29), (0, .nameAndType 30 14), (0, u "cachedIf"), (0, .fieldref 9 32), (0, .nameAndType 33 14), (0, u "cachedThen"), (0, .fieldref 9 35), (0, .nameAndType 36 14), (0, u "cachedElse"), (0, .fieldref 9 38), (0, .nameAndType 39 14), (0, u "cachedResult"), (0, .integer 2147483647), (0, .fieldref 9 42), (0, .nameAndType 43 44), (0, u "size"), (0, u "I"), (9, .methodref 9 55), (0, .nameAndType 56 57), (0, u "node"), (0, u "(III)I"), (0, .methodref 9 59), (0, .nameAndType 60 57), (0, u "known"), (0, .class_ 62), (0, u "com/example/prolong/prolong/tree/DecisionDiagram$Frames"), (0, .methodref 61 5), (0, .methodref 9 65), (0, .nameAndType 66 57), (0, u "top"), (0, .methodref 61 68), (0, .nameAndType 69 70), (0, u "push"), (0, u "(IIII)V"), (0, .fieldref 61 72), (0, .nameAndType 73 44), (0, u "depth"), (0, .fieldref 61 12), (0, .fieldref 61 19), (0, .fieldref 61 16), (0, .fieldref 61 78), (0, .nameAndType 79 14), (0, u "f"), (0, .methodref 9 81), (0, .nameAndType 82 83), (0, u "cofactor"), (0, u "(IIZ)I"), (0, .fieldref 61 85), (0, .nameAndType 86 14), (0, u "g"), (0, .fieldref 61 88), (0, .nameAndType 89 14), (0, u "h"), (0, .methodref 61 91), (0, .nameAndType 92 93), (0, u "settle"), (0, u "(II)V"), (0, .methodref 9 95), (0, .nameAndType 96 70), (0, u "remember"), (0, .methodref 98 99), (0, .class_ 100), (0, .nameAndType 101 102), (0, u "java/lang/Math"), (0, u "max"), (0, u "(II)I"), (0, .methodref 9 104), (0, .nameAndType 105 57), (0, u "cacheSlot"), (0, .methodref 9 107), (0, .nameAndType 108 57), (0, u "mix"), (0, .methodref 98 110), (0, .nameAndType 111 102), (0, u "min"), (4, .class_ 118), (1, u "java/util/Arrays"), (2, .methodref 116 122), (0, .nameAndType 123 124), (0, u "fill"), (0, u "([II)V"), (0, .integer 2654435761), (0, .integer 2246822519), (0, u "FALSE"), (2, u "TRUE"), (1, u "TERMINAL"), (0, u "NONE"), (1, u "INITIAL_CAPACITY"), (3, u "(I)I"), (1, u "ite"), (0, u "probability"), (0, u "(I[D)D")] 21

def k2c0 : Code := { maxStack := 3, maxLocals := 1, code := prog_72_method_1_code, exceptionTable := #[], attributes := #[] }
def k2m0 : Method := { name := "<init>", desc := "()V", sig := { parameters := [], returnType := none }, accessFlags := 0, code := some k2c0 }
def k2c1 : Code := { maxStack := 4, maxLocals := 2, code := prog_72_method_2_code, exceptionTable := #[], attributes := #[] }
def k2m1 : Method := { name := "variable", desc := "(I)I", sig := { parameters := [.int], returnType := some .int }, accessFlags := 0, code := some k2c1 }
def k2c2 : Code := { maxStack := 8, maxLocals := 14, code := prog_72_method_3_code, exceptionTable := #[], attributes := #[] }
def k2m2 : Method := { name := "ite", desc := "(III)I", sig := { parameters := [.int, .int, .int], returnType := some .int }, accessFlags := 0, code := some k2c2 }
def k2c3 : Code := { maxStack := 9, maxLocals := 7, code := prog_72_method_4_code, exceptionTable := #[], attributes := #[] }
def k2m3 : Method := { name := "probability", desc := "(I[D)D", sig := { parameters := [.int, (.array .double)], returnType := some .double }, accessFlags := 0, code := some k2c3 }
def k2c4 : Code := { maxStack := 4, maxLocals := 7, code := prog_72_method_5_code, exceptionTable := #[], attributes := #[] }
def k2m4 : Method := { name := "known", desc := "(III)I", sig := { parameters := [.int, .int, .int], returnType := some .int }, accessFlags := 2, code := some k2c4 }
def k2c5 : Code := { maxStack := 4, maxLocals := 6, code := prog_72_method_6_code, exceptionTable := #[], attributes := #[] }
def k2m5 : Method := { name := "remember", desc := "(IIII)V", sig := { parameters := [.int, .int, .int, .int], returnType := none }, accessFlags := 2, code := some k2c5 }
def k2c6 : Code := { maxStack := 3, maxLocals := 4, code := prog_72_method_7_code, exceptionTable := #[], attributes := #[] }
def k2m6 : Method := { name := "cacheSlot", desc := "(III)I", sig := { parameters := [.int, .int, .int], returnType := some .int }, accessFlags := 2, code := some k2c6 }
def k2c7 : Code := { maxStack := 4, maxLocals := 4, code := prog_72_method_8_code, exceptionTable := #[], attributes := #[] }
def k2m7 : Method := { name := "top", desc := "(III)I", sig := { parameters := [.int, .int, .int], returnType := some .int }, accessFlags := 2, code := some k2c7 }
def k2c8 : Code := { maxStack := 2, maxLocals := 5, code := prog_72_method_9_code, exceptionTable := #[], attributes := #[] }
def k2m8 : Method := { name := "cofactor", desc := "(IIZ)I", sig := { parameters := [.int, .int, .boolean], returnType := some .int }, accessFlags := 2, code := some k2c8 }
def k2c9 : Code := { maxStack := 4, maxLocals := 7, code := prog_72_method_10_code, exceptionTable := #[], attributes := #[] }
def k2m9 : Method := { name := "node", desc := "(III)I", sig := { parameters := [.int, .int, .int], returnType := some .int }, accessFlags := 2, code := some k2c9 }
def k2c10 : Code := { maxStack := 2, maxLocals := 2, code := prog_72_method_12_code, exceptionTable := #[], attributes := #[] }
def k2m10 : Method := { name := "emptyTable", desc := "(I)[I", sig := { parameters := [.int], returnType := some (.array .int) }, accessFlags := 10, code := some k2c10 }
def k2c11 : Code := { maxStack := 3, maxLocals := 4, code := prog_72_method_13_code, exceptionTable := #[], attributes := #[] }
def k2m11 : Method := { name := "mix", desc := "(III)I", sig := { parameters := [.int, .int, .int], returnType := some .int }, accessFlags := 10, code := some k2c11 }
/-- com/example/prolong/prolong/tree/DecisionDiagram -/
def k2 : Class := { plain "com/example/prolong/prolong/tree/DecisionDiagram" (some 0) with
  accessFlags := 48
  interfaces := #[]
  cf := some (fileOf pool2 9 #[.nestMembers #[61]] #[{ accessFlags := 0, nameIndex := 7, descriptorIndex := 8, attributes := #[] }, { accessFlags := 0, nameIndex := 13, descriptorIndex := 139, attributes := #[] }, { accessFlags := 0, nameIndex := 141, descriptorIndex := 57, attributes := #[] }, { accessFlags := 0, nameIndex := 142, descriptorIndex := 143, attributes := #[] }, { accessFlags := 2, nameIndex := 60, descriptorIndex := 57, attributes := #[] }, { accessFlags := 2, nameIndex := 96, descriptorIndex := 70, attributes := #[] }, { accessFlags := 2, nameIndex := 105, descriptorIndex := 57, attributes := #[] }, { accessFlags := 2, nameIndex := 66, descriptorIndex := 57, attributes := #[] }, { accessFlags := 2, nameIndex := 82, descriptorIndex := 83, attributes := #[] }, { accessFlags := 2, nameIndex := 56, descriptorIndex := 57, attributes := #[] }, { accessFlags := 10, nameIndex := 23, descriptorIndex := 24, attributes := #[] }, { accessFlags := 10, nameIndex := 108, descriptorIndex := 57, attributes := #[] }] 48 4 #[] #[{ accessFlags := 24, nameIndex := 127, descriptorIndex := 44, attributes := #[] }, { accessFlags := 24, nameIndex := 130, descriptorIndex := 44, attributes := #[] }, { accessFlags := 26, nameIndex := 132, descriptorIndex := 44, attributes := #[] }, { accessFlags := 26, nameIndex := 133, descriptorIndex := 44, attributes := #[] }, { accessFlags := 26, nameIndex := 135, descriptorIndex := 44, attributes := #[] }, { accessFlags := 2, nameIndex := 13, descriptorIndex := 14, attributes := #[] }, { accessFlags := 2, nameIndex := 17, descriptorIndex := 14, attributes := #[] }, { accessFlags := 2, nameIndex := 20, descriptorIndex := 14, attributes := #[] }, { accessFlags := 2, nameIndex := 43, descriptorIndex := 44, attributes := #[] }, { accessFlags := 2, nameIndex := 27, descriptorIndex := 14, attributes := #[] }, { accessFlags := 2, nameIndex := 30, descriptorIndex := 14, attributes := #[] }, { accessFlags := 2, nameIndex := 33, descriptorIndex := 14, attributes := #[] }, { accessFlags := 2, nameIndex := 36, descriptorIndex := 14, attributes := #[] }, { accessFlags := 2, nameIndex := 39, descriptorIndex := 14, attributes := #[] }])
  fields := #[{ name := "FALSE", type := .int, accessFlags := 24, slot := 0, constantValue := 0 }, { name := "TRUE", type := .int, accessFlags := 24, slot := 1, constantValue := 0 }, { name := "TERMINAL", type := .int, accessFlags := 26, slot := 2, constantValue := 0 }, { name := "NONE", type := .int, accessFlags := 26, slot := 3, constantValue := 0 }, { name := "INITIAL_CAPACITY", type := .int, accessFlags := 26, slot := 4, constantValue := 0 }, { name := "variable", type := (.array .int), accessFlags := 2, slot := 0, constantValue := 0 }, { name := "low", type := (.array .int), accessFlags := 2, slot := 1, constantValue := 0 }, { name := "high", type := (.array .int), accessFlags := 2, slot := 2, constantValue := 0 }, { name := "size", type := .int, accessFlags := 2, slot := 3, constantValue := 0 }, { name := "unique", type := (.array .int), accessFlags := 2, slot := 4, constantValue := 0 }, { name := "cachedIf", type := (.array .int), accessFlags := 2, slot := 5, constantValue := 0 }, { name := "cachedThen", type := (.array .int), accessFlags := 2, slot := 6, constantValue := 0 }, { name := "cachedElse", type := (.array .int), accessFlags := 2, slot := 7, constantValue := 0 }, { name := "cachedResult", type := (.array .int), accessFlags := 2, slot := 8, constantValue := 0 }]
  methods := #[k2m0, k2m1, k2m2, k2m3, k2m4, k2m5, k2m6, k2m7, k2m8, k2m9, k2m10, k2m11]
  instanceTypes := #[(.array .int), (.array .int), (.array .int), .int, (.array .int), (.array .int), (.array .int), (.array .int), (.array .int)]
  staticTypes := #[.int, .int, .int, .int, .int]
  resolved := (((Array.replicate 165 none).setIfInBounds 61 (some (.cls 4))).setIfInBounds 63 (some (.method ⟨4, 0⟩)))
  statics := none }

def pool3 : Array CpInfo := pool [(2, .class_ 4), (1, u "java/lang/Object"), (0, u "<init>"), (0, u "()V"), (7, .class_ 16), (1, u "java/util/Arrays"), (57, .class_ 76), (1, u "java/util/Arrays$NaturalOrder"), (36, .class_ 115), (1, u "java/util/Arrays$LegacyMergeSort"), (1, u "Z"), (257, .class_ 376), (0, u "java/util/Arrays$ArrayList"), (68, u "$assertionsDisabled"), (269, u "MIN_ARRAY_SORT_GRAN"), (0, u "I"), (2, u "INSERTIONSORT_THRESHOLD"), (120, u "fill"), (4, u "([II)V"), (129, .class_ 976), (0, u "java/util/Arrays$ArrayItr")] 52

def k3m0 : Method := { name := "<init>", desc := "()V", sig := { parameters := [], returnType := none }, accessFlags := 2, code := none }
def k3c1 : Code := { maxStack := 3, maxLocals := 4, code := jdk_65_method_103_code, exceptionTable := #[], attributes := #[] }
def k3m1 : Method := { name := "fill", desc := "([II)V", sig := { parameters := [(.array .int), .int], returnType := none }, accessFlags := 9, code := some k3c1 }
/-- java/util/Arrays -/
def k3 : Class := { plain "java/util/Arrays" (some 0) with
  accessFlags := 49
  interfaces := #[]
  cf := some (fileOf pool3 14 #[.nestMembers #[975, 375, 113, 74]] #[{ accessFlags := 2, nameIndex := 5, descriptorIndex := 6, attributes := #[] }, { accessFlags := 9, nameIndex := 840, descriptorIndex := 845, attributes := #[] }] 49 2 #[] #[{ accessFlags := 26, nameIndex := 715, descriptorIndex := 716, attributes := #[] }, { accessFlags := 26, nameIndex := 719, descriptorIndex := 716, attributes := #[] }, { accessFlags := 4120, nameIndex := 445, descriptorIndex := 117, attributes := #[] }])
  fields := #[{ name := "MIN_ARRAY_SORT_GRAN", type := .int, accessFlags := 26, slot := 0, constantValue := 0 }, { name := "INSERTIONSORT_THRESHOLD", type := .int, accessFlags := 26, slot := 1, constantValue := 0 }, { name := "$assertionsDisabled", type := .boolean, accessFlags := 4120, slot := 2, constantValue := 0 }]
  methods := #[k3m0, k3m1]
  instanceTypes := #[]
  staticTypes := #[.int, .int, .boolean]
  resolved := Array.replicate 1029 none
  statics := none }

def pool4 : Array CpInfo := pool [(1, .class_ 2), (0, u "com/example/prolong/prolong/tree/DecisionDiagram"), (0, .methodref 4 5), (0, .class_ 6), (0, .nameAndType 7 8), (0, u "java/lang/Object"), (0, u "<init>"), (0, u "()V"), (0, .fieldref 10 11), (0, .class_ 12), (0, .nameAndType 13 14), (0, u "com/example/prolong/prolong/tree/DecisionDiagram$Frames"), (0, u "f"), (0, u "[I"), (0, .fieldref 10 16), (0, .nameAndType 17 14), (0, u "g"), (0, .fieldref 10 19), (0, .nameAndType 20 14), (0, u "h"), (0, .fieldref 10 22), (0, .nameAndType 23 14), (0, u "variable"), (0, .fieldref 10 25), (0, .nameAndType 26 14), (0, u "high"), (0, .fieldref 10 28), (0, .nameAndType 29 14), (0, u "low"), (0, .fieldref 10 31), (0, .nameAndType 32 33), (0, u "depth"), (0, u "I"), (8, u "push"), (0, u "(IIII)V"), (1, u "settle"), (0, u "(II)V")] 5

def k4c0 : Code := { maxStack := 2, maxLocals := 1, code := prog_73_method_1_code, exceptionTable := #[], attributes := #[] }
def k4m0 : Method := { name := "<init>", desc := "()V", sig := { parameters := [], returnType := none }, accessFlags := 2, code := some k4c0 }
def k4c1 : Code := { maxStack := 3, maxLocals := 6, code := prog_73_method_2_code, exceptionTable := #[], attributes := #[] }
def k4m1 : Method := { name := "push", desc := "(IIII)V", sig := { parameters := [.int, .int, .int, .int], returnType := none }, accessFlags := 0, code := some k4c1 }
def k4c2 : Code := { maxStack := 3, maxLocals := 3, code := prog_73_method_3_code, exceptionTable := #[], attributes := #[] }
def k4m2 : Method := { name := "settle", desc := "(II)V", sig := { parameters := [.int, .int], returnType := none }, accessFlags := 0, code := some k4c2 }
/-- com/example/prolong/prolong/tree/DecisionDiagram$Frames -/
def k4 : Class := { plain "com/example/prolong/prolong/tree/DecisionDiagram$Frames" (some 0) with
  accessFlags := 48
  interfaces := #[]
  cf := some (fileOf pool4 10 #[.nestHost 1] #[{ accessFlags := 2, nameIndex := 7, descriptorIndex := 8, attributes := #[] }, { accessFlags := 0, nameIndex := 42, descriptorIndex := 43, attributes := #[] }, { accessFlags := 0, nameIndex := 45, descriptorIndex := 46, attributes := #[] }] 48 4 #[] #[{ accessFlags := 0, nameIndex := 13, descriptorIndex := 14, attributes := #[] }, { accessFlags := 0, nameIndex := 17, descriptorIndex := 14, attributes := #[] }, { accessFlags := 0, nameIndex := 20, descriptorIndex := 14, attributes := #[] }, { accessFlags := 0, nameIndex := 23, descriptorIndex := 14, attributes := #[] }, { accessFlags := 0, nameIndex := 26, descriptorIndex := 14, attributes := #[] }, { accessFlags := 0, nameIndex := 29, descriptorIndex := 14, attributes := #[] }, { accessFlags := 0, nameIndex := 32, descriptorIndex := 33, attributes := #[] }])
  fields := #[{ name := "f", type := (.array .int), accessFlags := 0, slot := 0, constantValue := 0 }, { name := "g", type := (.array .int), accessFlags := 0, slot := 1, constantValue := 0 }, { name := "h", type := (.array .int), accessFlags := 0, slot := 2, constantValue := 0 }, { name := "variable", type := (.array .int), accessFlags := 0, slot := 3, constantValue := 0 }, { name := "high", type := (.array .int), accessFlags := 0, slot := 4, constantValue := 0 }, { name := "low", type := (.array .int), accessFlags := 0, slot := 5, constantValue := 0 }, { name := "depth", type := .int, accessFlags := 0, slot := 6, constantValue := 0 }]
  methods := #[k4m0, k4m1, k4m2]
  instanceTypes := #[(.array .int), (.array .int), (.array .int), (.array .int), (.array .int), (.array .int), .int]
  staticTypes := #[]
  resolved := Array.replicate 52 none
  statics := none }

def pool5 : Array CpInfo := pool [(1, .class_ 2), (0, u "java/lang/Math"), (1, .class_ 6), (1, u "java/lang/Object"), (0, u "<init>"), (0, u "()V"), (89, .class_ 100), (1, u "java/lang/Math$RandomNumberGeneratorHolder"), (71, u "negativeZeroFloatBits"), (0, u "J"), (2, u "negativeZeroDoubleBits"), (21, u "max"), (2, u "min"), (43, u "$assertionsDisabled"), (0, u "Z"), (88, u "(II)I"), (2, u "twoToTheDoubleScaleDown"), (0, u "D"), (4, u "twoToTheDoubleScaleUp"), (9, u "E"), (3, u "PI"), (2, u "TAU"), (2, u "DEGREES_TO_RADIANS"), (0, u "RADIANS_TO_DEGREES")] 94

def k5m0 : Method := { name := "<init>", desc := "()V", sig := { parameters := [], returnType := none }, accessFlags := 2, code := none }
def k5c1 : Code := { maxStack := 2, maxLocals := 2, code := jdk_29_method_65_code, exceptionTable := #[], attributes := #[] }
def k5m1 : Method := { name := "max", desc := "(II)I", sig := { parameters := [.int, .int], returnType := some .int }, accessFlags := 9, code := some k5c1 }
def k5c2 : Code := { maxStack := 2, maxLocals := 2, code := jdk_29_method_69_code, exceptionTable := #[], attributes := #[] }
def k5m2 : Method := { name := "min", desc := "(II)I", sig := { parameters := [.int, .int], returnType := some .int }, accessFlags := 9, code := some k5c2 }
/-- java/lang/Math -/
def k5 : Class := { plain "java/lang/Math" (some 0) with
  accessFlags := 49
  interfaces := #[]
  cf := some (fileOf pool5 1 #[.nestMembers #[98]] #[{ accessFlags := 2, nameIndex := 7, descriptorIndex := 8, attributes := #[] }, { accessFlags := 9, nameIndex := 198, descriptorIndex := 335, attributes := #[] }, { accessFlags := 9, nameIndex := 201, descriptorIndex := 335, attributes := #[] }] 49 4 #[] #[{ accessFlags := 25, nameIndex := 354, descriptorIndex := 339, attributes := #[] }, { accessFlags := 25, nameIndex := 358, descriptorIndex := 339, attributes := #[] }, { accessFlags := 25, nameIndex := 361, descriptorIndex := 339, attributes := #[] }, { accessFlags := 26, nameIndex := 364, descriptorIndex := 339, attributes := #[] }, { accessFlags := 26, nameIndex := 365, descriptorIndex := 339, attributes := #[] }, { accessFlags := 26, nameIndex := 172, descriptorIndex := 173, attributes := #[] }, { accessFlags := 26, nameIndex := 176, descriptorIndex := 173, attributes := #[] }, { accessFlags := 8, nameIndex := 344, descriptorIndex := 339, attributes := #[] }, { accessFlags := 8, nameIndex := 338, descriptorIndex := 339, attributes := #[] }, { accessFlags := 4120, nameIndex := 245, descriptorIndex := 246, attributes := #[] }])
  fields := #[{ name := "E", type := .double, accessFlags := 25, slot := 0, constantValue := 0 }, { name := "PI", type := .double, accessFlags := 25, slot := 1, constantValue := 0 }, { name := "TAU", type := .double, accessFlags := 25, slot := 2, constantValue := 0 }, { name := "DEGREES_TO_RADIANS", type := .double, accessFlags := 26, slot := 3, constantValue := 0 }, { name := "RADIANS_TO_DEGREES", type := .double, accessFlags := 26, slot := 4, constantValue := 0 }, { name := "negativeZeroFloatBits", type := .long, accessFlags := 26, slot := 5, constantValue := 0 }, { name := "negativeZeroDoubleBits", type := .long, accessFlags := 26, slot := 6, constantValue := 0 }, { name := "twoToTheDoubleScaleUp", type := .double, accessFlags := 8, slot := 7, constantValue := 0 }, { name := "twoToTheDoubleScaleDown", type := .double, accessFlags := 8, slot := 8, constantValue := 0 }, { name := "$assertionsDisabled", type := .boolean, accessFlags := 4120, slot := 9, constantValue := 0 }]
  methods := #[k5m0, k5m1, k5m2]
  instanceTypes := #[]
  staticTypes := #[.double, .double, .double, .double, .double, .long, .long, .double, .double, .boolean]
  resolved := Array.replicate 460 none
  statics := none }

def pool6 : Array CpInfo := pool [(1, u "java/lang/Cloneable"), (0, .class_ 1), (0, u "java/lang/Object"), (0, .class_ 3)] 3

/-- java/lang/Cloneable -/
def k6 : Class := { plain "java/lang/Cloneable" (some 0) with
  accessFlags := 1537
  interfaces := #[]
  cf := some (fileOf pool6 2 #[] #[] 1537 4 #[] #[])
  fields := #[]
  methods := #[]
  instanceTypes := #[]
  staticTypes := #[]
  resolved := Array.replicate 8 none
  statics := none }

def pool7 : Array CpInfo := pool [(1, u "java/io/Serializable"), (0, .class_ 1), (0, u "java/lang/Object"), (0, .class_ 3)] 3

/-- java/io/Serializable -/
def k7 : Class := { plain "java/io/Serializable" (some 0) with
  accessFlags := 1537
  interfaces := #[]
  cf := some (fileOf pool7 2 #[] #[] 1537 4 #[] #[])
  fields := #[]
  methods := #[]
  instanceTypes := #[]
  staticTypes := #[]
  resolved := Array.replicate 8 none
  statics := none }

/-- the primitive byte -/
def k8 : Class := { plain "byte" none with kind := .primitive 'B', accessFlags := 0x411 }
/-- [B -/
def k9 : Class := { plain "[B" (some 0) with kind := .array 8 .byte, interfaces := #[6, 7], accessFlags := 1041 }

/-- the primitive double -/
def k10 : Class := { plain "double" none with kind := .primitive 'D', accessFlags := 0x411 }
/-- [D -/
def k11 : Class := { plain "[D" (some 0) with kind := .array 10 .double, interfaces := #[6, 7], accessFlags := 1041 }

/-- the primitive int -/
def k12 : Class := { plain "int" none with kind := .primitive 'I', accessFlags := 0x411 }
/-- [I -/
def k13 : Class := { plain "[I" (some 0) with kind := .array 12 .int, interfaces := #[6, 7], accessFlags := 1041 }

def heap : Heap := #[]
def classes : Array Class := #[k0, k1, k2, k3, k4, k5, k6, k7, k8, k9, k10, k11, k12, k13]
def interned : List (Array UInt16 × Addr) := []
def slotsUsed : Nat := 0
def theMethod : MethodId := ⟨1, 1⟩
def args0 : Array Value := #[.int 2, .int 3, .int 4, .int 5, .int 6, .int 6]
def aboutOver (below : List Frame) : State where
  vm := { classes := classes, interned := interned.toArray }
  heap := heap
  slotsUsed := slotsUsed
  threads := #[{ frames := .invoking theMethod args0 :: below }]
def below0 : List Frame := [.native { method := ⟨0, 0⟩, args := #[] }]
def about1 : State := aboutOver below0
def p0 : Program := .bare "" "" ""
def e0 : Env := launch0.env 0 0 0
theorem w_frames : about1.frames = Frame.invoking theMethod args0 :: below0 := rfl
set_option maxRecDepth 65536 in
theorem w_args : argsFit about1.vm theMethod args0 = true := by decide +kernel
set_option maxRecDepth 65536 in
theorem w_heap : heapFits about1 = true := by decide +kernel
set_option maxRecDepth 65536 in
theorem w_runnable : about1.curStatus? = some .runnable := by decide +kernel
set_option maxRecDepth 65536 in
theorem w_alone : about1.alone = true := by decide +kernel
set_option maxRecDepth 65536 in
theorem w_named : about1.methodNamed? x = some theMethod := by decide +kernel
set_option maxRecDepth 65536 in
theorem w_hears : about1.hears theMethod below0 = true := by decide +kernel
set_option maxRecDepth 65536 in
theorem w_ripe : about1.ripe theMethod args0 below0 = true := by decide +kernel
theorem w_running : about1.status = .running := rfl
set_option maxRecDepth 65536 in
theorem w_room : about1.hasRoom e0.platform room_1 = true :=
  launch0.hasRoom_least _ room_1 (by decide +kernel) (by decide +kernel) (by decide +kernel) (by decide +kernel) (by decide +kernel) (by decide +kernel)
theorem allAtoms_all (ts : List Jvm.Cond) (a : Array Jvm.Value) (st : Jvm.State) : (allAtoms ts).before a st = ts.all (fun c => c.before a st) := by
  induction ts with
  | nil => rfl
  | cons c t ih =>
    show (Jvm.Cond.and c (allAtoms t)).before a st = _
    rw [Jvm.Cond.before_and, ih, List.all_cons]
def words1 : List Jvm.Cond := Jvm.Cond.code x code maxLocals ret :: tables_1
/-- a 'code' word, met by the world's own term for the bytes: nothing is compared byte by byte -/
theorem code_word {y : MethodName} {bytes : ByteArray} {mx : Nat} {rt : Option FieldType} {a : Array Value} {s : State} {m : MethodId} {meth : Method} {c : Code} (h1 : s.methodNamed? y = some m) (h2 : s.vm.method? m = some meth) (h3 : meth.code = some c) (h4 : c.code = bytes)
    (h5 : (c.maxLocals == mx && c.exceptionTable.isEmpty && decide (c.maxStack ≤ mostOperands) && decide (meth.sig.returnType = rt) && !meth.locks && decide (parseMethodDescriptor y.desc = some meth.sig)) = true) : (Jvm.Cond.code y bytes mx rt).before a s = true := by
  simp only [Bool.and_eq_true, beq_iff_eq, Bool.not_eq_true', decide_eq_true_eq] at h5
  obtain ⟨⟨⟨⟨⟨g1, g2⟩, g3⟩, g4⟩, g5⟩, g6⟩ := h5
  simp [Cond.before, Cond.holds, Cond.value, h1, h2, h3, h4, g1, g2, g3, g4, g5, g6]
def isCode : Jvm.Cond → Bool
  | .code _ _ _ _ => true
  | _ => false
theorem all_split {L : List Jvm.Cond} {P : Jvm.Cond → Bool} (h1 : L.all (fun c => isCode c || P c) = true) (h2 : ∀ c ∈ L.filter isCode, P c = true) : L.all P = true := by
  refine List.all_eq_true.mpr fun c hc => ?_
  have h := List.all_eq_true.mp h1 c hc
  rcases Bool.eq_false_or_eq_true (isCode c) with hi | hi
  · exact h2 c (List.mem_filter.mpr ⟨hc, hi⟩)
  · simpa [hi] using h
set_option maxRecDepth 65536 in
theorem w_c0 : (Jvm.Cond.code x code maxLocals ret).before args0 about1 = true := code_word (m := ⟨1, 1⟩) (meth := k1m1) (c := k1c1) (by decide +kernel) rfl rfl rfl (by decide +kernel)
set_option maxRecDepth 65536 in
theorem w_c1 : (Jvm.Cond.code ({ cls := "com/example/prolong/prolong/tree/DecisionDiagram", name := "<init>", desc := "()V" } : Jvm.MethodName) prog_72_method_1_code (1 : Nat) (Option.none : Option Jvm.ClassFile.FieldType)).before args0 about1 = true := code_word (m := ⟨2, 0⟩) (meth := k2m0) (c := k2c0) (by decide +kernel) rfl rfl rfl (by decide +kernel)
set_option maxRecDepth 65536 in
theorem w_c2 : (Jvm.Cond.code ({ cls := "java/lang/Object", name := "<init>", desc := "()V" } : Jvm.MethodName) object_method_1_code (1 : Nat) (Option.none : Option Jvm.ClassFile.FieldType)).before args0 about1 = true := code_word (m := ⟨0, 0⟩) (meth := k0m0) (c := k0c0) (by decide +kernel) rfl rfl rfl (by decide +kernel)
set_option maxRecDepth 65536 in
theorem w_c3 : (Jvm.Cond.code ({ cls := "com/example/prolong/prolong/tree/DecisionDiagram", name := "emptyTable", desc := "(I)[I" } : Jvm.MethodName) prog_72_method_12_code (2 : Nat) (Option.some (Jvm.ClassFile.FieldType.array Jvm.ClassFile.FieldType.int))).before args0 about1 = true := code_word (m := ⟨2, 10⟩) (meth := k2m10) (c := k2c10) (by decide +kernel) rfl rfl rfl (by decide +kernel)
set_option maxRecDepth 65536 in
theorem w_c4 : (Jvm.Cond.code ({ cls := "java/util/Arrays", name := "fill", desc := "([II)V" } : Jvm.MethodName) jdk_65_method_103_code (4 : Nat) (Option.none : Option Jvm.ClassFile.FieldType)).before args0 about1 = true := code_word (m := ⟨3, 1⟩) (meth := k3m1) (c := k3c1) (by decide +kernel) rfl rfl rfl (by decide +kernel)
set_option maxRecDepth 65536 in
theorem w_c5 : (Jvm.Cond.code ({ cls := "com/example/prolong/prolong/tree/DecisionDiagram", name := "variable", desc := "(I)I" } : Jvm.MethodName) prog_72_method_2_code (2 : Nat) (Option.some Jvm.ClassFile.FieldType.int)).before args0 about1 = true := code_word (m := ⟨2, 1⟩) (meth := k2m1) (c := k2c1) (by decide +kernel) rfl rfl rfl (by decide +kernel)
set_option maxRecDepth 65536 in
theorem w_c6 : (Jvm.Cond.code ({ cls := "com/example/prolong/prolong/tree/DecisionDiagram", name := "node", desc := "(III)I" } : Jvm.MethodName) prog_72_method_10_code (7 : Nat) (Option.some Jvm.ClassFile.FieldType.int)).before args0 about1 = true := code_word (m := ⟨2, 9⟩) (meth := k2m9) (c := k2c9) (by decide +kernel) rfl rfl rfl (by decide +kernel)
set_option maxRecDepth 65536 in
theorem w_c7 : (Jvm.Cond.code ({ cls := "com/example/prolong/prolong/tree/DecisionDiagram", name := "mix", desc := "(III)I" } : Jvm.MethodName) prog_72_method_13_code (4 : Nat) (Option.some Jvm.ClassFile.FieldType.int)).before args0 about1 = true := code_word (m := ⟨2, 11⟩) (meth := k2m11) (c := k2c11) (by decide +kernel) rfl rfl rfl (by decide +kernel)
set_option maxRecDepth 65536 in
theorem w_c8 : (Jvm.Cond.code ({ cls := "com/example/prolong/prolong/tree/DecisionDiagramProbabilityPinLaw", name := "leaf", desc := "(I)I" } : Jvm.MethodName) method_3_code (1 : Nat) (Option.some Jvm.ClassFile.FieldType.int)).before args0 about1 = true := code_word (m := ⟨1, 2⟩) (meth := k1m2) (c := k1c2) (by decide +kernel) rfl rfl rfl (by decide +kernel)
set_option maxRecDepth 65536 in
theorem w_c9 : (Jvm.Cond.code ({ cls := "com/example/prolong/prolong/tree/DecisionDiagram", name := "ite", desc := "(III)I" } : Jvm.MethodName) prog_72_method_3_code (14 : Nat) (Option.some Jvm.ClassFile.FieldType.int)).before args0 about1 = true := code_word (m := ⟨2, 2⟩) (meth := k2m2) (c := k2c2) (by decide +kernel) rfl rfl rfl (by decide +kernel)
set_option maxRecDepth 65536 in
theorem w_c10 : (Jvm.Cond.code ({ cls := "com/example/prolong/prolong/tree/DecisionDiagram", name := "known", desc := "(III)I" } : Jvm.MethodName) prog_72_method_5_code (7 : Nat) (Option.some Jvm.ClassFile.FieldType.int)).before args0 about1 = true := code_word (m := ⟨2, 4⟩) (meth := k2m4) (c := k2c4) (by decide +kernel) rfl rfl rfl (by decide +kernel)
set_option maxRecDepth 65536 in
theorem w_c11 : (Jvm.Cond.code ({ cls := "com/example/prolong/prolong/tree/DecisionDiagram", name := "cacheSlot", desc := "(III)I" } : Jvm.MethodName) prog_72_method_7_code (4 : Nat) (Option.some Jvm.ClassFile.FieldType.int)).before args0 about1 = true := code_word (m := ⟨2, 6⟩) (meth := k2m6) (c := k2c6) (by decide +kernel) rfl rfl rfl (by decide +kernel)
set_option maxRecDepth 65536 in
theorem w_c12 : (Jvm.Cond.code ({ cls := "com/example/prolong/prolong/tree/DecisionDiagram$Frames", name := "<init>", desc := "()V" } : Jvm.MethodName) prog_73_method_1_code (1 : Nat) (Option.none : Option Jvm.ClassFile.FieldType)).before args0 about1 = true := code_word (m := ⟨4, 0⟩) (meth := k4m0) (c := k4c0) (by decide +kernel) rfl rfl rfl (by decide +kernel)
set_option maxRecDepth 65536 in
theorem w_c13 : (Jvm.Cond.code ({ cls := "com/example/prolong/prolong/tree/DecisionDiagram", name := "top", desc := "(III)I" } : Jvm.MethodName) prog_72_method_8_code (4 : Nat) (Option.some Jvm.ClassFile.FieldType.int)).before args0 about1 = true := code_word (m := ⟨2, 7⟩) (meth := k2m7) (c := k2c7) (by decide +kernel) rfl rfl rfl (by decide +kernel)
set_option maxRecDepth 65536 in
theorem w_c14 : (Jvm.Cond.code ({ cls := "java/lang/Math", name := "min", desc := "(II)I" } : Jvm.MethodName) jdk_29_method_69_code (2 : Nat) (Option.some Jvm.ClassFile.FieldType.int)).before args0 about1 = true := code_word (m := ⟨5, 2⟩) (meth := k5m2) (c := k5c2) (by decide +kernel) rfl rfl rfl (by decide +kernel)
set_option maxRecDepth 65536 in
theorem w_c15 : (Jvm.Cond.code ({ cls := "com/example/prolong/prolong/tree/DecisionDiagram$Frames", name := "push", desc := "(IIII)V" } : Jvm.MethodName) prog_73_method_2_code (6 : Nat) (Option.none : Option Jvm.ClassFile.FieldType)).before args0 about1 = true := code_word (m := ⟨4, 1⟩) (meth := k4m1) (c := k4c1) (by decide +kernel) rfl rfl rfl (by decide +kernel)
set_option maxRecDepth 65536 in
theorem w_c16 : (Jvm.Cond.code ({ cls := "com/example/prolong/prolong/tree/DecisionDiagram", name := "cofactor", desc := "(IIZ)I" } : Jvm.MethodName) prog_72_method_9_code (5 : Nat) (Option.some Jvm.ClassFile.FieldType.int)).before args0 about1 = true := code_word (m := ⟨2, 8⟩) (meth := k2m8) (c := k2c8) (by decide +kernel) rfl rfl rfl (by decide +kernel)
set_option maxRecDepth 65536 in
theorem w_c17 : (Jvm.Cond.code ({ cls := "com/example/prolong/prolong/tree/DecisionDiagram$Frames", name := "settle", desc := "(II)V" } : Jvm.MethodName) prog_73_method_3_code (3 : Nat) (Option.none : Option Jvm.ClassFile.FieldType)).before args0 about1 = true := code_word (m := ⟨4, 2⟩) (meth := k4m2) (c := k4c2) (by decide +kernel) rfl rfl rfl (by decide +kernel)
set_option maxRecDepth 65536 in
theorem w_c18 : (Jvm.Cond.code ({ cls := "com/example/prolong/prolong/tree/DecisionDiagram", name := "remember", desc := "(IIII)V" } : Jvm.MethodName) prog_72_method_6_code (6 : Nat) (Option.none : Option Jvm.ClassFile.FieldType)).before args0 about1 = true := code_word (m := ⟨2, 5⟩) (meth := k2m5) (c := k2c5) (by decide +kernel) rfl rfl rfl (by decide +kernel)
set_option maxRecDepth 65536 in
theorem w_c19 : (Jvm.Cond.code ({ cls := "com/example/prolong/prolong/tree/DecisionDiagram", name := "probability", desc := "(I[D)D" } : Jvm.MethodName) prog_72_method_4_code (7 : Nat) (Option.some Jvm.ClassFile.FieldType.double)).before args0 about1 = true := code_word (m := ⟨2, 3⟩) (meth := k2m3) (c := k2c3) (by decide +kernel) rfl rfl rfl (by decide +kernel)
set_option maxRecDepth 65536 in
theorem w_c20 : (Jvm.Cond.code ({ cls := "java/lang/Math", name := "max", desc := "(II)I" } : Jvm.MethodName) jdk_29_method_65_code (2 : Nat) (Option.some Jvm.ClassFile.FieldType.int)).before args0 about1 = true := code_word (m := ⟨5, 1⟩) (meth := k5m1) (c := k5c1) (by decide +kernel) rfl rfl rfl (by decide +kernel)
def codes1 : List Jvm.Cond := [Jvm.Cond.code x code maxLocals ret, Jvm.Cond.code ({ cls := "com/example/prolong/prolong/tree/DecisionDiagram", name := "<init>", desc := "()V" } : Jvm.MethodName) prog_72_method_1_code (1 : Nat) (Option.none : Option Jvm.ClassFile.FieldType), Jvm.Cond.code ({ cls := "java/lang/Object", name := "<init>", desc := "()V" } : Jvm.MethodName) object_method_1_code (1 : Nat) (Option.none : Option Jvm.ClassFile.FieldType), Jvm.Cond.code ({ cls := "com/example/prolong/prolong/tree/DecisionDiagram", name := "emptyTable", desc := "(I)[I" } : Jvm.MethodName) prog_72_method_12_code (2 : Nat) (Option.some (Jvm.ClassFile.FieldType.array Jvm.ClassFile.FieldType.int)), Jvm.Cond.code ({ cls := "java/util/Arrays", name := "fill", desc := "([II)V" } : Jvm.MethodName) jdk_65_method_103_code (4 : Nat) (Option.none : Option Jvm.ClassFile.FieldType), Jvm.Cond.code ({ cls := "com/example/prolong/prolong/tree/DecisionDiagram", name := "variable", desc := "(I)I" } : Jvm.MethodName) prog_72_method_2_code (2 : Nat) (Option.some Jvm.ClassFile.FieldType.int), Jvm.Cond.code ({ cls := "com/example/prolong/prolong/tree/DecisionDiagram", name := "node", desc := "(III)I" } : Jvm.MethodName) prog_72_method_10_code (7 : Nat) (Option.some Jvm.ClassFile.FieldType.int), Jvm.Cond.code ({ cls := "com/example/prolong/prolong/tree/DecisionDiagram", name := "mix", desc := "(III)I" } : Jvm.MethodName) prog_72_method_13_code (4 : Nat) (Option.some Jvm.ClassFile.FieldType.int), Jvm.Cond.code ({ cls := "com/example/prolong/prolong/tree/DecisionDiagramProbabilityPinLaw", name := "leaf", desc := "(I)I" } : Jvm.MethodName) method_3_code (1 : Nat) (Option.some Jvm.ClassFile.FieldType.int), Jvm.Cond.code ({ cls := "com/example/prolong/prolong/tree/DecisionDiagram", name := "ite", desc := "(III)I" } : Jvm.MethodName) prog_72_method_3_code (14 : Nat) (Option.some Jvm.ClassFile.FieldType.int), Jvm.Cond.code ({ cls := "com/example/prolong/prolong/tree/DecisionDiagram", name := "known", desc := "(III)I" } : Jvm.MethodName) prog_72_method_5_code (7 : Nat) (Option.some Jvm.ClassFile.FieldType.int), Jvm.Cond.code ({ cls := "com/example/prolong/prolong/tree/DecisionDiagram", name := "cacheSlot", desc := "(III)I" } : Jvm.MethodName) prog_72_method_7_code (4 : Nat) (Option.some Jvm.ClassFile.FieldType.int), Jvm.Cond.code ({ cls := "com/example/prolong/prolong/tree/DecisionDiagram$Frames", name := "<init>", desc := "()V" } : Jvm.MethodName) prog_73_method_1_code (1 : Nat) (Option.none : Option Jvm.ClassFile.FieldType), Jvm.Cond.code ({ cls := "com/example/prolong/prolong/tree/DecisionDiagram", name := "top", desc := "(III)I" } : Jvm.MethodName) prog_72_method_8_code (4 : Nat) (Option.some Jvm.ClassFile.FieldType.int), Jvm.Cond.code ({ cls := "java/lang/Math", name := "min", desc := "(II)I" } : Jvm.MethodName) jdk_29_method_69_code (2 : Nat) (Option.some Jvm.ClassFile.FieldType.int), Jvm.Cond.code ({ cls := "com/example/prolong/prolong/tree/DecisionDiagram$Frames", name := "push", desc := "(IIII)V" } : Jvm.MethodName) prog_73_method_2_code (6 : Nat) (Option.none : Option Jvm.ClassFile.FieldType), Jvm.Cond.code ({ cls := "com/example/prolong/prolong/tree/DecisionDiagram", name := "cofactor", desc := "(IIZ)I" } : Jvm.MethodName) prog_72_method_9_code (5 : Nat) (Option.some Jvm.ClassFile.FieldType.int), Jvm.Cond.code ({ cls := "com/example/prolong/prolong/tree/DecisionDiagram$Frames", name := "settle", desc := "(II)V" } : Jvm.MethodName) prog_73_method_3_code (3 : Nat) (Option.none : Option Jvm.ClassFile.FieldType), Jvm.Cond.code ({ cls := "com/example/prolong/prolong/tree/DecisionDiagram", name := "remember", desc := "(IIII)V" } : Jvm.MethodName) prog_72_method_6_code (6 : Nat) (Option.none : Option Jvm.ClassFile.FieldType), Jvm.Cond.code ({ cls := "com/example/prolong/prolong/tree/DecisionDiagram", name := "probability", desc := "(I[D)D" } : Jvm.MethodName) prog_72_method_4_code (7 : Nat) (Option.some Jvm.ClassFile.FieldType.double), Jvm.Cond.code ({ cls := "java/lang/Math", name := "max", desc := "(II)I" } : Jvm.MethodName) jdk_29_method_65_code (2 : Nat) (Option.some Jvm.ClassFile.FieldType.int)]
set_option maxRecDepth 65536 in
theorem codes_eq : words1.filter isCode = codes1 := rfl
theorem w_codes : ∀ c ∈ words1.filter isCode, c.before args0 about1 = true := by
  rw [codes_eq]
  intro c hc
  simp only [codes1, List.mem_cons, List.not_mem_nil, or_false] at hc
  rcases hc with rfl | rfl | rfl | rfl | rfl | rfl | rfl | rfl | rfl | rfl | rfl | rfl | rfl | rfl | rfl | rfl | rfl | rfl | rfl | rfl | rfl
  · exact w_c0
  · exact w_c1
  · exact w_c2
  · exact w_c3
  · exact w_c4
  · exact w_c5
  · exact w_c6
  · exact w_c7
  · exact w_c8
  · exact w_c9
  · exact w_c10
  · exact w_c11
  · exact w_c12
  · exact w_c13
  · exact w_c14
  · exact w_c15
  · exact w_c16
  · exact w_c17
  · exact w_c18
  · exact w_c19
  · exact w_c20
set_option maxRecDepth 65536 in
theorem w_t1 : (words1.take 24).all (fun c => isCode c || c.before args0 about1) = true := by decide +kernel
set_option maxRecDepth 65536 in
theorem w_t2 : ((words1.drop 24).take 24).all (fun c => isCode c || c.before args0 about1) = true := by decide +kernel
set_option maxRecDepth 65536 in
theorem w_t3 : (((words1.drop 24).drop 24).take 24).all (fun c => isCode c || c.before args0 about1) = true := by decide +kernel
set_option maxRecDepth 65536 in
theorem w_t4 : ((((words1.drop 24).drop 24).drop 24).take 24).all (fun c => isCode c || c.before args0 about1) = true := by decide +kernel
set_option maxRecDepth 65536 in
theorem w_t5 : (((((words1.drop 24).drop 24).drop 24).drop 24).take 24).all (fun c => isCode c || c.before args0 about1) = true := by decide +kernel
set_option maxRecDepth 65536 in
theorem w_t6 : (((((words1.drop 24).drop 24).drop 24).drop 24).drop 24).all (fun c => isCode c || c.before args0 about1) = true := by decide +kernel
theorem w_tables : (allAtoms (Jvm.Cond.code x code maxLocals ret :: tables_1)).before args0 about1 = true := by
  rw [allAtoms_all]
  show words1.all (fun c => c.before args0 about1) = true
  refine all_split ?_ w_codes
  rw [← List.take_append_drop 24 words1, List.all_append, w_t1, ← List.take_append_drop 24 (words1.drop 24), List.all_append, w_t2, ← List.take_append_drop 24 ((words1.drop 24).drop 24), List.all_append, w_t3, ← List.take_append_drop 24 (((words1.drop 24).drop 24).drop 24), List.all_append, w_t4, ← List.take_append_drop 24 ((((words1.drop 24).drop 24).drop 24).drop 24), List.all_append, w_t5, w_t6]
  rfl
set_option maxRecDepth 65536 in
theorem w_case : (Jvm.Cond.and given_1 narrow_1).before args0 about1 = true := by decide +kernel
theorem w_applies : (headSpec (Jvm.Cond.code x code maxLocals ret :: tables_1) room_1).applies x e0.platform about1 = true :=
  (Spec.applies_iff w_frames).mpr ⟨w_running, w_runnable, w_alone, w_named, w_hears, w_ripe, w_room, w_tables⟩
theorem atStart : AtStart classFile x code maxLocals ret World_1 tables_1 room_1 Calls_1 rest_1 Pre_1 launch0 p0 e0 about1 theMethod args0 below0 :=
  ⟨lists_1, trivial, launch0.admits_env _ _ _, launch0.least_env, fairChoices_fair.cas, fairChoices_fair.clock, w_frames, w_args, w_heap, w_applies, trivial, trivial, w_case⟩
end start1
theorem witness_1 : WitnessClaimed_1 := ⟨start1.p0, start1.e0, start1.about1, start1.theMethod, start1.args0, start1.below0, start1.atStart⟩
end Jvm.Pilot.@@N@@
