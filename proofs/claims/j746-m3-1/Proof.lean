import JvmDerived
import JvmDerived.Pilot.@@N@@Statement
import JvmDerived.Pilot.@@N@@Code
set_option linter.unusedVariables false
set_option linter.unusedSimpArgs false

namespace Jvm.RoadKit
open Sem ClassFile Op Lib Jvm.Stand Jvm.Free Jvm.LawKit
section New
variable {p : Program} {l : Launch} {e : Env} {R : Room} {s : State} {m : MethodId} {args : Array Value} {below : List Frame} {meth : Method} {c : Code} {T : State} {locs : List Loc} {cells slots : Nat}
theorem retI (X : Stand p l e R s m args below meth c T locs cells slots) (hx : p.tables.exec = Jvm.exec) {pc : Nat} {Ls : Array Slot} {z : Int32} {rest : List Value} (hret : meth.sig.returnType = some .int) (hd : decode c.code pc = .ok (.ireturn, 1)) {fs : List Frame}
    (hl : ∀ (f : JFrame) (acts : List Action), f.method = m → f.locked = none → f.entered = [] → (doReturn e (T.setTop f) acts (some (.int z))).1 = T.setFrames fs) : Steps p.tables e below (T.setTop (mkF m pc Ls (.int z :: rest))) (T.setFrames fs) := by
  have hm' : T.vm.method? m = some meth := X.method'
  have hn : narrow .int (.int z) = .int z := rfl
  show Steps p.tables e below (T.setTop { method := m, pc := pc, locals := Ls, stack := _ :: rest, locked := none }) _
  jvm_step X.here [X.here.top, hx, hd, hm', hret, hn]
  first | (intro acts; rw [hl _ acts rfl rfl rfl]) | rw [hl _ _ rfl rfl rfl]
  exact Steps.refl _
end New
end Jvm.RoadKit
namespace Own
open Jvm.FP.Core
theorem own_fin_of {s : Bool} {A B : Nat} {e : Int} : ∃ c q, roundRatio b64 s A B e = .fin s c q ∨ roundRatio b64 s A B e = .inf s := by
  unfold roundRatio roundAt settle bound
  split
  · exact ⟨_, _, Or.inl rfl⟩
  · split <;> split
    · exact ⟨_, _, Or.inl rfl⟩
    · exact ⟨0, 0, Or.inr rfl⟩
    · exact ⟨_, _, Or.inl rfl⟩
    · exact ⟨0, 0, Or.inr rfl⟩
theorem own_ord_nn {c : Nat} {q : Int} : order (.fin false c q) (.fin false 0 b64.qmin) = some .gt ∨ order (.fin false c q) (.fin false 0 b64.qmin) = some .eq := by
  by_cases hc : c = 0
  · right; subst hc; simp [order, inUnits, compare_self_int]
  · left
    simp only [order]
    have h1 : (0 : Int) < (inUnits c q (min q b64.qmin) : Nat) := by
      have := Nat.two_pow_pos (q - min q b64.qmin).toNat
      unfold inUnits
      exact Int.ofNat_lt.mpr (Nat.mul_pos (Nat.pos_of_ne_zero hc) this)
    have h0 : inUnits 0 b64.qmin (min q b64.qmin) = 0 := by simp [inUnits]
    rw [h0]
    show some (compare ((inUnits c q (min q b64.qmin) : Nat) : Int) ((0 : Nat) : Int)) = _
    congr 1
    exact Int.compare_eq_gt.mpr h1
/-- none below zero, as a datum -/
def own_NN (x : UInt64) : Prop := ∃ c q, val64 x = .fin false c q
theorem own_NN_l2d {t : Int64} (h : 0 ≤ t.toInt) (hf : DFin (l2d t)) : own_NN (l2d t) := by
  obtain ⟨s, c, q, e⟩ := hf
  have hr : val64 (l2d t) = roundRatio b64 (decide (t.toInt < 0)) t.toInt.natAbs 1 0 := val64_l2d t
  rw [show decide (t.toInt < 0) = false by simp; omega] at hr
  obtain ⟨c', q', z | z⟩ := own_fin_of (s := false) (A := t.toInt.natAbs) (B := 1) (e := 0)
  · exact ⟨c', q', hr.trans z⟩
  · rw [hr, z] at e; cases e
theorem own_NN_div {a b : UInt64} (ha : own_NN a) (hb : own_NN b) (hz : ¬ DZero b) (hf : DFin (ddiv a b)) : own_NN (ddiv a b) := by
  obtain ⟨c, q, ea⟩ := ha
  obtain ⟨d, r, eb⟩ := hb
  obtain ⟨s, x, y, e⟩ := hf
  have hd : d ≠ 0 := fun z => hz ⟨false, r, by rw [eb, z]⟩
  have hr : val64 (ddiv a b) = roundRatio b64 (false != false) c d (q - r) := by
    rw [val64_ddiv, ea, eb]
    show (if d = 0 then _ else _) = _
    rw [if_neg hd]
  obtain ⟨c', q', z | z⟩ := own_fin_of (s := (false != false)) (A := c) (B := d) (e := q - r)
  · exact ⟨c', q', hr.trans z⟩
  · rw [hr, z] at e; cases e
theorem own_NN_cmp {x : UInt64} (h : own_NN x) : dcmp x dconst0 = some .gt ∨ dcmp x dconst0 = some .eq := by
  obtain ⟨c, q, e⟩ := h
  show order (val64 x) (val64 dconst0) = _ ∨ order (val64 x) (val64 dconst0) = _
  rw [e, val64_dconst0]; exact own_ord_nn
theorem own_pos {A B : Nat} {e : Int} (hA : 0 < A) (hB : 0 < B) (h : B * 2 ^ (b64.qmin - e).toNat ≤ A * 2 ^ (e - b64.qmin).toNat) :
    (∃ c q, 0 < c ∧ roundRatio b64 false A B e = .fin false c q) ∨ roundRatio b64 false A B e = .inf false := by
  have hu : 1 ≤ nearest (unitsNum A e (quantum b64 A B e)) (unitsDen B e (quantum b64 A B e)) := by
    refine nearest_ge (unitsDen_pos hB ..) ?_
    rw [Nat.one_mul]
    rcases quantum_not_below (f := b64) hA hB e with h2 | h2
    · rw [h2]; exact h
    · rw [show (b64.p : Int) - 1 = ((b64.p - 1 : Nat) : Int) by decide, ← units_below] at h2
      exact Nat.le_trans (Nat.le_mul_of_pos_left _ (Nat.two_pow_pos _)) (Nat.le_of_not_lt h2)
  unfold roundRatio roundAt settle bound
  rw [if_neg (by omega)]
  split <;> split
  · exact Or.inl ⟨_, _, hu, rfl⟩
  · exact Or.inr rfl
  · exact Or.inl ⟨_, _, tails_pos _, rfl⟩
  · exact Or.inr rfl
theorem own_ord_pos {c : Nat} {q : Int} (hc : 0 < c) : order (.fin false c q) (.fin false 0 b64.qmin) = some .gt := by
  simp only [order]
  have h1 : (0 : Int) < (inUnits c q (min q b64.qmin) : Nat) := by
    have := Nat.two_pow_pos (q - min q b64.qmin).toNat
    unfold inUnits
    exact Int.ofNat_lt.mpr (Nat.mul_pos hc this)
  have h0 : inUnits 0 b64.qmin (min q b64.qmin) = 0 := by simp [inUnits]
  rw [h0]
  show some (compare ((inUnits c q (min q b64.qmin) : Nat) : Int) ((0 : Nat) : Int)) = _
  congr 1
  exact Int.compare_eq_gt.mpr h1
theorem own_i2d_v {a : Int32} (h : 0 ≤ a.toInt) : ∃ c q, val64 (i2d a) = .fin false c q ∧ Whole (a.toInt.toNat : Int) (.fin false c q) := by
  have hi := i2d_int a
  unfold DInt at hi
  rw [val64_i2d] at hi ⊢
  have hr : round b64 (ofInt a.toInt) = roundRatio b64 (decide (a.toInt < 0)) a.toInt.natAbs 1 0 := rfl
  rw [show decide (a.toInt < 0) = false by simp; omega] at hr
  rw [hr] at hi ⊢
  rw [show ((a.toInt.toNat : Nat) : Int) = a.toInt by omega]
  obtain ⟨c, q, e | e⟩ := own_fin_of (s := false) (A := a.toInt.natAbs) (B := 1) (e := 0)
  · exact ⟨c, q, e, e ▸ hi⟩
  · rw [e] at hi; exact hi.elim
theorem own_whole_nat {n : Nat} {s : Bool} {c : Nat} {q : Int} (h : Whole (n : Int) (.fin s c q)) : c * 2 ^ q.toNat = n * 2 ^ (-q).toNat := by
  have := whole_natAbs h
  simpa using this
theorem own_cpos {n : Nat} {c : Nat} {q : Int} (h : Whole (n : Int) (.fin false c q)) (hn : 0 < n) : 0 < c := by
  have := own_whole_nat h
  rcases Nat.eq_zero_or_pos c with z | z
  · rw [z, Nat.zero_mul] at this
    have := Nat.mul_pos hn (Nat.two_pow_pos (-q).toNat)
    omega
  · exact z
theorem own_gt_of {x : UInt64} {A B : Nat} {e : Int} (hx : val64 x = roundRatio b64 false A B e) (hp : (∃ c q, 0 < c ∧ roundRatio b64 false A B e = .fin false c q) ∨ roundRatio b64 false A B e = .inf false) : val64 x ≠ .nan ∧ dcmp x dconst0 = some .gt := by
  have : dcmp x dconst0 = order (val64 x) (val64 dconst0) := rfl
  rw [this, hx, val64_dconst0]
  rcases hp with ⟨c, q, hc, z⟩ | z <;> rw [z]
  · exact ⟨by simp, own_ord_pos hc⟩
  · exact ⟨by simp, by decide⟩
/-- the least number, a positive whole number of times -/
theorem own_tolM {m : Int32} (h : 0 < m.toInt) : val64 (dmul (i2d m) 1) ≠ .nan ∧ dcmp (dmul (i2d m) 1) dconst0 = some .gt := by
  obtain ⟨c, q, e, w⟩ := own_i2d_v (Int.le_of_lt h)
  have h1 : val64 1 = .fin false 1 (-1074) := by decide +kernel
  have hx : val64 (dmul (i2d m) 1) = roundRatio b64 false (c * 1) 1 (q + -1074) := by
    rw [val64_dmul, e, h1]; rfl
  have hc := own_cpos w (by omega)
  refine own_gt_of hx (own_pos (by omega) (by decide) ?_)
  have hw := own_whole_nat w
  rw [show (b64.qmin - (q + -1074)).toNat = (-q).toNat by rw [show b64.qmin = -1074 by decide]; omega, show (q + -1074 - b64.qmin).toNat = q.toNat by rw [show b64.qmin = -1074 by decide]; omega, Nat.mul_one, hw]
  exact Nat.mul_le_mul_right _ (by omega)
theorem own_ddiv {a b : UInt64} {A B : Nat} {c d : Nat} {q r : Int} (ha : val64 a = .fin false c q) (hA : Whole (A : Int) (.fin false c q)) (hb : val64 b = .fin false d r) (hB : Whole (B : Int) (.fin false d r)) (hB0 : 0 < B) :
    val64 (ddiv a b) = roundRatio b64 false A B 0 := by
  rw [val64_ddiv, ha, hb]
  have h1 := own_whole_nat hA
  have h2 := own_whole_nat hB
  have hd : d ≠ 0 := by have := own_cpos hB hB0; omega
  show (if d = 0 then _ else roundRatio b64 (false != false) c d (q - r)) = _
  rw [if_neg hd]
  refine roundRatio_congr (Nat.pos_of_ne_zero hd) hB0 ?_
  have e1 : (q - r - 0).toNat + (-q).toNat + r.toNat = (0 - (q - r)).toNat + q.toNat + (-r).toNat := by omega
  have p1 := Nat.two_pow_pos (q.toNat)
  have p2 := Nat.two_pow_pos ((-q).toNat)
  have p3 := Nat.two_pow_pos (r.toNat)
  have p4 := Nat.two_pow_pos ((-r).toNat)
  refine Nat.eq_of_mul_eq_mul_right (Nat.mul_pos (Nat.mul_pos p1 p2) (Nat.mul_pos p3 p4)) ?_
  calc c * B * 2 ^ (q - r - 0).toNat * (2 ^ q.toNat * 2 ^ (-q).toNat * (2 ^ r.toNat * 2 ^ (-r).toNat))
      = (c * 2 ^ q.toNat) * (B * 2 ^ (-r).toNat) * (2 ^ ((q - r - 0).toNat + (-q).toNat + r.toNat)) := by simp only [Nat.pow_add]; ac_rfl
    _ = (A * 2 ^ (-q).toNat) * (d * 2 ^ r.toNat) * (2 ^ ((0 - (q - r)).toNat + q.toNat + (-r).toNat)) := by rw [h1, h2, e1]
    _ = A * d * 2 ^ (0 - (q - r)).toNat * (2 ^ q.toNat * 2 ^ (-q).toNat * (2 ^ r.toNat * 2 ^ (-r).toNat)) := by simp only [Nat.pow_add]; ac_rfl
theorem own_divI {a b : Int32} (ha : 0 ≤ a.toInt) (hb : 0 < b.toInt) : val64 (ddiv (i2d a) (i2d b)) = roundRatio b64 false a.toInt.toNat b.toInt.toNat 0 := by
  obtain ⟨c, q, e, w⟩ := own_i2d_v ha
  obtain ⟨c', q', e', w'⟩ := own_i2d_v (Int.le_of_lt hb)
  exact own_ddiv e w e' w' (by omega)
theorem own_tolD {m u : Int32} (h : 0 < m.toInt) (hu : 0 < u.toInt) : val64 (ddiv (i2d m) (i2d u)) ≠ .nan ∧ dcmp (ddiv (i2d m) (i2d u)) dconst0 = some .gt := by
  refine own_gt_of (own_divI (Int.le_of_lt h) hu) (own_pos (by omega) (by omega) ?_)
  rw [show (b64.qmin - 0).toNat = 0 by decide, show (0 - b64.qmin).toNat = 1074 by decide]
  have h1 := u.toInt_lt
  have : 2 ^ 32 ≤ 2 ^ 1074 := Nat.pow_le_pow_right (by decide) (by decide)
  refine Nat.le_trans (m := 2 ^ 32) (by omega) (Nat.le_trans this (Nat.le_mul_of_pos_left _ (by omega)))
theorem own_NN_i2d {a : Int32} (h : 0 ≤ a.toInt) : own_NN (i2d a) := by
  obtain ⟨c, q, e, -⟩ := own_i2d_v h; exact ⟨c, q, e⟩
theorem own_NZ_i2d {a : Int32} (h : 0 < a.toInt) : ¬ DZero (i2d a) := fun z => by
  obtain ⟨c, q, e, w⟩ := own_i2d_v (Int.le_of_lt h)
  obtain ⟨s, q', e'⟩ := z
  rw [e] at e'
  cases e'
  exact absurd (own_cpos w (by omega)) (by omega)
end Own
namespace Jvm.Pilot.@@N@@
open Jvm Jvm.ClassFile Sem Op Lib Jvm.Free Jvm.Stand Jvm.LawKit Jvm.RoadKit Bundle Jvm.Pilot.@@N@@.Jvm.D
theorem own_stak {Z : State} {h h' : Heap} {C n d : String} {v : Value} {ws : List Addr} (F : Sta Z h C n d v) (K : Keep h h' ws) (q : ∀ x ∈ ws, ∀ c : Cell, h[x]? = some c → c.vm.isStatics = false) : Sta Z h' C n d v := by
  obtain ⟨cf, i, k, f, st, cell, h1, h2, h3, h4, h5, h6, h7⟩ := F
  refine ⟨cf, i, k, f, st, cell, h1, h2, h3, h4, K.2.1 st cell h5 (fun hm => ?_), h6, h7⟩
  have e := q st hm cell h5
  rw [h6] at e; cases e
theorem own_exns {Z : State} {h : Heap} {a : Addr} {C : String} (E : Exa Z h a C) : ∀ c : Cell, h[a]? = some c → c.vm.isStatics = false := fun c hc => by
  obtain ⟨c', k, e1, -, -, e4, -⟩ := E
  cases hc.symm.trans e1; exact e4
theorem own_arns {Z : State} {h : Heap} {a : Addr} {k : ClassId} {ty : FieldType} {z : Int32} {vs : List Value} {d : Value} (A : Arv Z h a k ty z vs d) : ∀ c : Cell, h[a]? = some c → c.vm.isStatics = false := fun c hc => by
  obtain ⟨c', A', -⟩ := A
  have e := A'.plain
  cases hc.symm.trans A'.1; exact e
abbrev oS (p : Program) (e : Env) (below : List Frame) (T : State) (g : JFrame) (t : State) : Prop := Steps p.tables e below (T.setTop g) t
theorem own_w (i : Nat) {d : Jvm.Cond} (h : tables_1[i]? = some d) : d ∈ tables_1 := List.mem_of_getElem? h
abbrev own_Met (l : Launch) (y : MethodName) (bytes : ByteArray) (maxL : Nat) (ret : Option FieldType) (ws : List Jvm.Cond) (rm : Room) (as' : Array Value) (Z : State) (h0 : Heap) (Q : Option Value → Heap → List Loc → Prop) : Prop :=
  MetFree l y (head1 (Jvm.Cond.code y bytes maxL ret :: ws) rm) (fun aU U => aU = as' ∧ Z.Warmed39 U.vm ∧ U.heap = h0) (fun _ _ _ _ _ => True) (fun _ U oU U' => ∃ vU LU, oU = .returned vU ∧ Q vU U'.heap LU ∧ FrameEnd U oU U' LU rm.cells rm.slots)
theorem own_weak {l : Launch} {y : MethodName} {bytes : ByteArray} {maxL : Nat} {ret : Option FieldType} {ws : List Jvm.Cond} {rm : Room} {as' : Array Value} {Z : State} {h0 : Heap} {Q Q' : Option Value → Heap → List Loc → Prop} (h : own_Met l y bytes maxL ret ws rm as' Z h0 Q) (hq : ∀ v t L, Q v t L → Q' v t L) : own_Met l y bytes maxL ret ws rm as' Z h0 Q' := by
  intro p e ha hc hk s m args below hf happ hP hK
  obtain ⟨n, o, h1, h2, h3, v, L, h4, h5, h6⟩ := h p e ha hc hk s m args below hf happ hP hK
  exact ⟨n, o, h1, h2, h3, v, L, h4, hq _ _ _ h5, h6⟩
theorem own_start {p : Program} {l : Launch} {y : MethodName} {ws : List Jvm.Cond} {rm : Room} {code : ByteArray} {maxL : Nat} {ret : Option FieldType} {e : Env} {s : State} {m : MethodId} {args : Array Value} {below : List Frame} {meth : Method} {c : Code} {s₁ : State} {h0 : Heap}
    (Bd : BodyLoose p l y (head1 ws rm) code maxL ret e s m args below meth c s₁) (hml : c.maxLocals = maxL) (hh : s.heap = h0) :
    p.tables.exec = Jvm.exec ∧ c.code = code ∧ s.vm.findClass y.cls = some m.cls ∧ meth.name = y.name ∧ Stand p l e rm s m args below meth c s₁ [] 0 0 ∧ s₁.heap = h0 :=
  ⟨Bd.exec, Bd.bytes, findClass_of_methodNamed Bd.named, (name_of_methodNamed Bd.named Bd.method).1, Stand.of_body Bd, by rw [← hh, Bd.state]; rfl⟩
section OwnCalls
variable {p : Program} {l : Launch} {e : Env} {R : Room} {s : State} {m : MethodId} {args : Array Value} {below : List Frame} {meth : Method} {c : Code} {T : State} {locs : List Loc} {cells slots : Nat} {Z : State} {a0 : Array Value} {h : Heap}
  {own : String} {index : Nat} {y z : MethodName} {bytes : ByteArray} {maxL : Nat} {ret : Option FieldType} {rm : Room} {W : Nat} {as' : Array Value} {Q : Option Value → Heap → List Loc → Prop}
theorem own_callS (X : Stand p l e R s m args below meth c T locs cells slots) (hx : p.tables.exec = Jvm.exec) (hZ : Z.Warmed39 s.vm) (hown : s.vm.findClass own = some m.cls) (hlink : (Cond.methodLink own index y).before a0 Z = true) (hstat : (Cond.static y).before a0 Z = true) (hinit : (Cond.initialized y.cls).before a0 Z = true)
    (hcode : (Cond.code y bytes maxL ret).before a0 Z = true) (hy : y.cls ≠ "java/lang/invoke/MethodHandle" ∧ y.cls ≠ "java/lang/invoke/VarHandle")
    (hM : own_Met l y bytes maxL ret [] rm as' Z h Q)
    (hf : rm.frames + 1 ≤ R.frames) (hl : W + (maxL + 11) + rm.locals ≤ R.locals) {g : JFrame} (hg : g.method = m) (hsize : g.locals.size = c.maxLocals) {argsL rest : List Value} (hlen : ∀ sig, parseMethodDescriptor y.desc = some sig → argsL.length = sig.parameters.length)
    (hstack : g.stack = argsL.reverse ++ rest) (hdg : decode c.code g.pc = .ok (.invokestatic index, 3)) (has : argsL.toArray = as') (eT : T.heap = h) (hc : cells + rm.cells ≤ R.cells) (hs : slots + rm.slots ≤ R.slots) (hW : 2 * g.monitorRoom + (rest.map fun v => v.category).sum ≤ W := by show 2 * 0 + _ ≤ _; exact Nat.le_of_eq rfl) :
    ∃ (v : Option Value) (T' : State) (L : List Loc), Stand p l e R s m args below meth c T' (locs ++ L) (cells + rm.cells) (slots + rm.slots) ∧ Q v T'.heap L ∧ ∀ target, Steps p.tables e below (T'.setTop { g with pc := g.pc + 3, stack := v.toList ++ rest }) target → Steps p.tables e below (T.setTop g) target := by
  obtain ⟨v, _, ⟨T3, L3, k3, n3⟩, -, X3, ⟨Lc3, hQ3, l3, y3, z3⟩, st3⟩ := Jvm.LawKit.callS X hx hown (mvT hZ hlink) (mvT hZ hstat) (mvT hZ hinit) (mvT hZ hcode) hy (backOf (W := W) hM hZ hcode hinit hf hl) hg hsize hlen hstack hW hdg (fun _ _ => ⟨has, eT, hc, hs⟩)
  dsimp only [Pt.U, Pt.locs, Pt.cells, Pt.slots] at X3 l3 y3 z3 st3 hQ3
  subst l3 y3 z3
  exact ⟨v, T3, Lc3, X3, hQ3, st3⟩
theorem own_special (X : Stand p l e R s m args below meth c T locs cells slots) (hx : p.tables.exec = Jvm.exec) (hZ : Z.Warmed39 s.vm) (hy1 : y.name = "<init>") (hown : s.vm.findClass own = some m.cls) (hlink : (Cond.methodLink own index y).before a0 Z = true) (hinst : (Cond.instanceMethod y).before a0 Z = true)
    (hcode : (Cond.code y bytes maxL none).before a0 Z = true) (hinit : (Cond.initialized y.cls).before a0 Z = true) (hy : y.cls ≠ "java/lang/invoke/MethodHandle" ∧ y.cls ≠ "java/lang/invoke/VarHandle")
    (hM : own_Met l y bytes maxL none [] rm as' Z h Q)
    (hf : rm.frames + 1 ≤ R.frames) (hl : W + (maxL + 11) + rm.locals ≤ R.locals) {g : JFrame} (hg : g.method = m) (hsize : g.locals.size = c.maxLocals) {a : Addr} {argsL rest : List Value} (hlen : ∀ sig, parseMethodDescriptor y.desc = some sig → argsL.length = sig.parameters.length)
    (hstack : g.stack = argsL.reverse ++ .ref a :: rest) (hdg : decode c.code g.pc = .ok (.invokespecial index, 3)) (has : (.ref a :: argsL).toArray = as') (eT : T.heap = h) (hc : cells + rm.cells ≤ R.cells) (hs : slots + rm.slots ≤ R.slots) (hW : 2 * g.monitorRoom + (rest.map fun v => v.category).sum ≤ W := by show 2 * 0 + _ ≤ _; exact Nat.le_of_eq rfl) :
    ∃ (v : Option Value) (T' : State) (L : List Loc), Stand p l e R s m args below meth c T' (locs ++ L) (cells + rm.cells) (slots + rm.slots) ∧ Q v T'.heap L ∧ ∀ target, Steps p.tables e below (T'.setTop { g with pc := g.pc + 3, stack := v.toList ++ rest }) target → Steps p.tables e below (T.setTop g) target := by
  obtain ⟨v, _, ⟨T3, L3, k3, n3⟩, -, X3, ⟨Lc3, hQ3, l3, y3, z3⟩, st3⟩ := X.specialBack hx hy1 hown (mvT hZ hlink) (mvT hZ hinst) (mvT hZ hcode) hy (backOf (W := W) hM hZ hcode hinit hf hl) hg hsize (Steps.refl _) hlen hstack hW hdg (fun _ _ => ⟨has, eT, hc, hs⟩)
  dsimp only [Pt.U, Pt.locs, Pt.cells, Pt.slots] at X3 l3 y3 z3 st3 hQ3
  subst l3 y3 z3
  exact ⟨v, T3, Lc3, X3, hQ3, fun target k => st3.trans k⟩
theorem own_virtual (X : Stand p l e R s m args below meth c T locs cells slots) (hx : p.tables.exec = Jvm.exec) (hZ : Z.Warmed39 s.vm) {C : String} (hown : s.vm.findClass own = some m.cls) (hlink : (Cond.methodLink own index y).before a0 Z = true) (hdecl : (Cond.declares y).before a0 Z = true) (hnf : NotFace s y) (hsel : (Cond.selects C y z).before a0 Z = true) (hinst : (Cond.instanceMethod z).before a0 Z = true)
    (hcode : (Cond.code z bytes maxL ret).before a0 Z = true) (hinit : (Cond.initialized z.cls).before a0 Z = true) (hy : y.cls ≠ "java/lang/invoke/MethodHandle" ∧ y.cls ≠ "java/lang/invoke/VarHandle")
    (hM : own_Met l z bytes maxL ret [] rm as' Z h Q)
    (hf : rm.frames + 1 ≤ R.frames) (hl : W + (maxL + 11) + rm.locals ≤ R.locals) {a : Addr} (E : Exa Z h a C) {g : JFrame} (hg : g.method = m) (hsize : g.locals.size = c.maxLocals) {argsL rest : List Value} (hlen : ∀ sig, parseMethodDescriptor y.desc = some sig → argsL.length = sig.parameters.length)
    (hstack : g.stack = argsL.reverse ++ .ref a :: rest) (hdg : decode c.code g.pc = .ok (.invokevirtual index, 3)) (has : (.ref a :: argsL).toArray = as') (eT : T.heap = h) (hc : cells + rm.cells ≤ R.cells) (hs : slots + rm.slots ≤ R.slots) (hW : 2 * g.monitorRoom + (rest.map fun v => v.category).sum ≤ W := by show 2 * 0 + _ ≤ _; exact Nat.le_of_eq rfl) :
    ∃ (v : Option Value) (T' : State) (L : List Loc), Stand p l e R s m args below meth c T' (locs ++ L) (cells + rm.cells) (slots + rm.slots) ∧ Q v T'.heap L ∧ ∀ target, Steps p.tables e below (T'.setTop { g with pc := g.pc + 3, stack := v.toList ++ rest }) target → Steps p.tables e below (T.setTop g) target := by
  obtain ⟨cq, kq, qa, qb, qc⟩ := isOf hZ eT E
  obtain ⟨v, _, ⟨T3, L3, k3, n3⟩, -, X3, ⟨Lc3, hQ3, l3, y3, z3⟩, st3⟩ := X.virtualBack hx hown (mvT hZ hlink) (mvT hZ hdecl) hnf (mvT hZ hsel) (mvT hZ hinst) hy (backOf (W := W) hM hZ hcode hinit hf hl) qa qc hg hsize (Steps.refl _) hlen hstack hW hdg (fun _ _ => ⟨has, eT, hc, hs⟩)
  dsimp only [Pt.U, Pt.locs, Pt.cells, Pt.slots] at X3 l3 y3 z3 st3 hQ3
  subst l3 y3 z3
  exact ⟨v, T3, Lc3, X3, hQ3, fun target k => st3.trans k⟩
end OwnCalls
abbrev mN0 : MethodName := ⟨"com/example/prolong/prolong/ctmc/TransientSolver", "checkSpan", "(DD)V"⟩
theorem own_mu (y : Int32) : 0 < ((y &&& (1073741823 : Int32)) + (1 : Int32)).toInt := by
  have h := c_mask y 1073741823 30 (by decide) (by decide)
  have h2 := c_iadd (y &&& 1073741823) 1
  rw [h, show (1 : Int32).toInt = 1 from rfl] at h2
  have h3 := rng32 ((y &&& 1073741823) + 1)
  omega
theorem own_mt (y : Int64) : 0 ≤ (y &&& (9223372036854775807 : Int64)).toInt := by
  rw [c_maskL y 9223372036854775807 63 (by decide) (by decide)]; omega
theorem own_bigI {u : Int32} (h : 0 < u.toInt) : Big64 1023 (FP.i2d u) := by
  rw [i2d_w]; refine l2d_big (fun q => ?_)
  have := congrArg Int64.toInt q
  rw [c_i2l] at this
  rw [this] at h; exact absurd h (by decide)
theorem own_timeF (t : Int64) {u : Int32} (h : 0 < u.toInt) : Jvm.Free.Fl.Fin64 (FP.ddiv (FP.l2d t) (FP.i2d u)) := (ddiv_mag (Jvm.Free.Fl.l2d_mag t) (own_bigI h) (by decide) (by decide)).fin (by decide)
theorem own_timeN {t : Int64} {u : Int32} (ht : 0 ≤ t.toInt) (h : 0 < u.toInt) : FP.dcmp (FP.ddiv (FP.l2d t) (FP.i2d u)) FP.dconst0 = some .gt ∨ FP.dcmp (FP.ddiv (FP.l2d t) (FP.i2d u)) FP.dconst0 = some .eq :=
  Own.own_NN_cmp (Own.own_NN_div (Own.own_NN_l2d ht (Jvm.Free.Fl.fin64_core.mp ((Jvm.Free.Fl.l2d_mag t).fin (by decide)))) (Own.own_NN_i2d (Int.le_of_lt h)) (Own.own_NZ_i2d h) (Jvm.Free.Fl.fin64_core.mp (own_timeF t h)))
theorem own_c1 {x : UInt64} (h : FP.dcmp x FP.dconst0 = some .gt ∨ FP.dcmp x FP.dconst0 = some .eq) : ¬ cmpValue (FP.dcmp x FP.dconst0) .l < 0 := by rcases h with h | h <;> rw [h] <;> decide
theorem own_c2 {x : UInt64} (h : Jvm.Free.Fl.Fin64 x) : ¬ cmpValue (FP.dcmp x (9218868437227405312 : UInt64)) .l = 0 := by rw [dcmp_pinf h .l]; decide
theorem own_c3 {x : UInt64} (h : FP.dcmp x FP.dconst0 = some .gt) : 0 < cmpValue (FP.dcmp x FP.dconst0) .l := by rw [h]; decide
theorem d1_0 : decode prog_18_method_9_code 0 = .ok (.dload_n 0, 1) := by decide +kernel
theorem d1_1 : decode prog_18_method_9_code 1 = .ok (.dconst 0, 1) := by decide +kernel
theorem d1_2 : decode prog_18_method_9_code 2 = .ok (.dcmp .l, 1) := by decide +kernel
theorem d1_3 : decode prog_18_method_9_code 3 = .ok (.ifCond .lt 17, 3) := by decide +kernel
theorem d1_6 : decode prog_18_method_9_code 6 = .ok (.dload_n 0, 1) := by decide +kernel
theorem d1_7 : decode prog_18_method_9_code 7 = .ok (.ldc2_w 140, 3) := by decide +kernel
theorem d1_10 : decode prog_18_method_9_code 10 = .ok (.dcmp .l, 1) := by decide +kernel
theorem d1_11 : decode prog_18_method_9_code 11 = .ok (.ifCond .eq 9, 3) := by decide +kernel
theorem d1_14 : decode prog_18_method_9_code 14 = .ok (.dload_n 2, 1) := by decide +kernel
theorem d1_15 : decode prog_18_method_9_code 15 = .ok (.dconst 0, 1) := by decide +kernel
theorem d1_16 : decode prog_18_method_9_code 16 = .ok (.dcmp .l, 1) := by decide +kernel
theorem d1_17 : decode prog_18_method_9_code 17 = .ok (.ifCond .gt 18, 3) := by decide +kernel
theorem d1_35 : decode prog_18_method_9_code 35 = .ok (.return_, 1) := by decide +kernel
theorem pn_TransientSolver : plainName "com/example/prolong/prolong/ctmc/TransientSolver" = true := by first | (simp [plainName, overriddenIn]; done) | decide +kernel
def QrmChk (Z : State) (d0 : UInt64) (d1 : UInt64) (h0 : Heap) (n0 : Nat) (v : Option Value) (h : Heap) (L : List Loc) : Prop := v = none ∧ Fr n0 L ∧ h = h0
set_option maxRecDepth 65536 in
set_option maxHeartbeats 40000000 in
theorem rmChk (l : Launch) (Z : State) (av0 : Array Value) (hw : ∀ d ∈ tables_1, d.before av0 Z = true) (ws : List Jvm.Cond) (d0 : UInt64) (d1 : UInt64) (h0 : Heap) (n0 : Nat) (Z0 : n0 ≤ h0.size) (h1 : FP.dcmp d0 FP.dconst0 = some .gt ∨ FP.dcmp d0 FP.dconst0 = some .eq) (h2 : Jvm.Free.Fl.Fin64 d0) (h3 : FP.dcmp d1 FP.dconst0 = some .gt) :
    own_Met l mN0 prog_18_method_9_code 4 none ws ({ frames := 0, cells := 0, slots := 0, locals := 0 } : Room) #[(.double d0), (.double d1)] Z h0 (QrmChk Z d0 d1 h0 n0) := by
  refine MetFree.of_bodySF (plainFor_of_name pn_TransientSolver) hisR ?_
  intro p e s m args below meth c s₁ Bd hml0 hP hK
  obtain ⟨rfl, hZ, hh⟩ := hP
  have hml : c.maxLocals = 4 := hml0
  obtain ⟨hx, hby, hown, hnm, X0, e0⟩ := own_start Bd hml0 hh
  have N0 := Fr.nil n0
  have pre0 : ∀ tz, oS p e below s₁ (mkF m 0 #[.val (.double d0), .second, .val (.double d1), .second] []) tz → Steps p.tables e below (s₁.setTop (entryFrame m #[(.double d0), (.double d1)] 4)) tz := fun tz kz => castTop (by first | (simp [entryFrame, mkF, argsToLocals, Value.category]; done) | rfl) kz
  have S1 : ∀ tz, oS p e below s₁ (mkF m 35 #[.val (.double d0), .second, .val (.double d1), .second] []) tz → oS p e below s₁ (mkF m 0 #[.val (.double d0), .second, .val (.double d1), .second] []) tz := fun tz kz => id (by
    show oS p e below s₁ (mkF m 0 #[.val (.double d0), .second, .val (.double d1), .second] []) _
    refine XS.dloadN X0.here hx rfl (hb hby d1_0) rfl ?_
    refine XS.dconst0 X0.here hx rfl (hb hby d1_1) rfl ?_
    refine XS.dcmpS X0.here hx rfl (hb hby d1_2) rfl rfl ?_
    refine XS.ifNo X0.here hx rfl (hb hby d1_3) rfl (XT.i0_lt_f (own_c1 h1)) ?_
    refine XS.dloadN X0.here hx rfl (hb hby d1_6) rfl ?_
    refine X0.ldc2DoubleC hx hown (mvT hZ (hw _ (own_w 6 rfl))) (g := (mkF m 7 #[.val (.double d0), .second, .val (.double d1), .second] [(.double d0)])) rfl (hb hby d1_7) _ ?_
    refine XS.dcmpS X0.here hx rfl (hb hby d1_10) rfl rfl ?_
    refine XS.ifNo X0.here hx rfl (hb hby d1_11) rfl (XT.i0_eq_f (own_c2 h2)) ?_
    show oS p e below s₁ (mkF m 14 #[.val (.double d0), .second, .val (.double d1), .second] []) _
    refine XS.dloadN X0.here hx rfl (hb hby d1_14) rfl ?_
    refine XS.dconst0 X0.here hx rfl (hb hby d1_15) rfl ?_
    refine XS.dcmpS X0.here hx rfl (hb hby d1_16) rfl rfl ?_
    refine XS.ifYes X0.here hx rfl (pc0 := 17) (pc' := 35) rfl (hb hby d1_17) rfl (XT.i0_gt_t (own_c3 h3)) (by decide) (by decide) ?_
    exact kz)
  obtain ⟨fs, hr, hrun, hended, hW, hsame⟩ := X0.leave (v := none) (fun _ => rfl)
  refine ⟨_, _, pre0 _ (S1 _ ?_), hrun, hended, _, _, rfl, ?_, ⟨_, rfl⟩, hW, hsame.mono (by decide) (by decide)⟩
  · exact X0.returnOut hx Bd.returns (hb hby d1_35) hr
  · show QrmChk Z d0 d1 h0 n0 _ s₁.heap _
    rw [e0]
    exact ⟨rfl, N0, rfl⟩
theorem pn_TransientSolverCheckSpanPinLaw : plainName "com/example/prolong/prolong/ctmc/TransientSolverCheckSpanPinLaw" = true := by first | (simp [plainName, overriddenIn]; done) | decide +kernel
theorem pd__DD_V : parseMethodDescriptor "(DD)V" = some ⟨[.double, .double], none⟩ := by decide +kernel
def Qrm0 (Z : State) (q0 : Int64) (p1 : Int32) (p2 : Int32) (p3 : Int32) (p4 : Int32) (h0 : Heap) (n0 : Nat) (v : Option Value) (h : Heap) (L : List Loc) : Prop := v = some (.int (1 : Int32)) ∧ Fr n0 L
set_option maxRecDepth 65536 in
set_option maxHeartbeats 40000000 in
theorem rm0 (l : Launch) (Z : State) (av0 : Array Value) (hw : ∀ d ∈ tables_1, d.before av0 Z = true) (ws : List Jvm.Cond) (q0 : Int64) (p1 : Int32) (p2 : Int32) (p3 : Int32) (p4 : Int32) (h0 : Heap) (n0 : Nat) (Z0 : n0 ≤ h0.size)  :
    MetFree l x (head1 (Jvm.Cond.code x code maxLocals ret :: ws) room_1) (fun aU U => aU = #[(.long q0), (.int p1), (.int p2), (.int p3), (.int p4)] ∧ Z.Warmed39 U.vm ∧ U.heap = h0) (fun _ _ _ _ _ => True) (fun _ U oU U' => ∃ vU LU, oU = .returned vU ∧ Qrm0 Z q0 p1 p2 p3 p4 h0 n0 vU U'.heap LU ∧ FrameEnd U oU U' LU room_1.cells room_1.slots) := by
  refine MetFree.of_bodySF (plainFor_of_name pn_TransientSolverCheckSpanPinLaw) hisR ?_
  intro p e s m args below meth c s₁ Bd hml0 hP hK
  obtain ⟨rfl, hZ, hh⟩ := hP
  have hml : c.maxLocals = 11 := hml0
  obtain ⟨hx, hby, hown, hnm, X0, e0⟩ := own_start Bd hml0 hh
  have N0 := Fr.nil n0
  have pre0 : ∀ tz, oS p e below s₁ (mkF m 0 #[.val (.long q0), .second, iv p1, iv p2, iv p3, iv p4, .unset, .unset, .unset, .unset, .unset] []) tz → Steps p.tables e below (s₁.setTop (entryFrame m #[(.long q0), (.int p1), (.int p2), (.int p3), (.int p4)] maxLocals)) tz := fun tz kz => castTop (by first | (simp [entryFrame, mkF, argsToLocals, Value.category, maxLocals]; done) | rfl) kz
  have S1 : ∀ tz, oS p e below s₁ (mkF m 8 #[.val (.long q0), .second, iv p1, iv p2, iv p3, iv p4, .unset, .unset, iv ((p4 &&& (3 : Int32))), .unset, .unset] [(.int (p4 &&& (3 : Int32)))]) tz → oS p e below s₁ (mkF m 0 #[.val (.long q0), .second, iv p1, iv p2, iv p3, iv p4, .unset, .unset, .unset, .unset, .unset] []) tz := fun tz kz => id (by
    show oS p e below s₁ (mkF m 0 #[.val (.long q0), .second, iv p1, iv p2, iv p3, iv p4, .unset, .unset, .unset, .unset, .unset] []) _
    refine XS.iload X0.here hx rfl (hb hby at_0) rfl ?_
    refine XT.iconstV X0.here hx rfl (3 : Int32) (hb hby at_2) (by decide) ?_
    refine XS.iand X0.here hx rfl (hb hby at_3) rfl ?_
    refine XS.istore X0.here hx rfl (hb hby at_4) rfl (l' := #[.val (.long q0), .second, iv p1, iv p2, iv p3, iv p4, .unset, .unset, iv ((p4 &&& (3 : Int32))), .unset, .unset]) rfl ?_
    refine XS.iload X0.here hx rfl (hb hby at_6) rfl ?_
    exact kz)
  by_cases hc8_2 : (p4 &&& (3 : Int32)) = (0 : Int32)
  · have S3 : ∀ tz, oS p e below s₁ (mkF m 51 #[.val (.long q0), .second, iv p1, iv p2, iv p3, iv p4, .val (.double FP.dconst0), .second, iv ((p4 &&& (3 : Int32))), .unset, .unset] [(.int (p4 &&& (4 : Int32)))]) tz → oS p e below s₁ (mkF m 0 #[.val (.long q0), .second, iv p1, iv p2, iv p3, iv p4, .unset, .unset, .unset, .unset, .unset] []) tz := fun tz kz => S1 tz (by
      show oS p e below s₁ (mkF m 8 #[.val (.long q0), .second, iv p1, iv p2, iv p3, iv p4, .unset, .unset, iv ((p4 &&& (3 : Int32))), .unset, .unset] [(.int (p4 &&& (3 : Int32)))]) _
      refine XS.ifNo X0.here hx rfl (hb hby at_8) rfl (XT.i0_ne_f hc8_2) ?_
      refine XS.dconst0 X0.here hx rfl (hb hby at_11) rfl ?_
      refine XS.dstore X0.here hx rfl (hb hby at_12) rfl (l' := #[.val (.long q0), .second, iv p1, iv p2, iv p3, iv p4, .val (.double FP.dconst0), .second, iv ((p4 &&& (3 : Int32))), .unset, .unset]) rfl ?_
      show oS p e below s₁ (mkF m 14 #[.val (.long q0), .second, iv p1, iv p2, iv p3, iv p4, .val (.double FP.dconst0), .second, iv ((p4 &&& (3 : Int32))), .unset, .unset] []) _
      refine XS.goto X0.here hx rfl (pc0 := 14) (pc' := 47) rfl (hb hby at_14) (by decide) (by decide) ?_
      refine XS.iload X0.here hx rfl (hb hby at_47) rfl ?_
      refine XT.iconstV X0.here hx rfl (4 : Int32) (hb hby at_49) (by decide) ?_
      refine XS.iand X0.here hx rfl (hb hby at_50) rfl ?_
      exact kz)
    by_cases hc51_4 : (p4 &&& (4 : Int32)) = (0 : Int32)
    · obtain ⟨_, T5, Lc5, X5, hQ5, st5⟩ := own_callS (W := 0) (y := mN0) X0 hx hZ hown (hw _ (own_w 2 rfl)) (hw _ (own_w 3 rfl)) (hw _ (own_w 4 rfl)) (hw _ (own_w 5 rfl)) (by decide) (rmChk l Z av0 hw [] FP.dconst0 (FP.ddiv (FP.i2d ((p2 &&& (1073741823 : Int32)) + (1 : Int32))) (FP.i2d ((p3 &&& (1073741823 : Int32)) + (1 : Int32)))) h0 n0 Z0 (Or.inr (by decide +kernel)) (show _ < _ by decide +kernel) (Own.own_tolD (own_mu p2) (own_mu p3)).2) (by decide) (by decide) (g := (mkF m 92 #[.val (.long q0), .second, iv p1, iv p2, iv p3, iv p4, .val (.double FP.dconst0), .second, iv ((p4 &&& (3 : Int32))), .val (.double (FP.ddiv (FP.i2d ((p2 &&& (1073741823 : Int32)) + (1 : Int32))) (FP.i2d ((p3 &&& (1073741823 : Int32)) + (1 : Int32))))), .second] [(.double (FP.ddiv (FP.i2d ((p2 &&& (1073741823 : Int32)) + (1 : Int32))) (FP.i2d ((p3 &&& (1073741823 : Int32)) + (1 : Int32))))), (.double FP.dconst0)])) rfl (by rw [hml]; rfl) (argsL := [(.double FP.dconst0), (.double (FP.ddiv (FP.i2d ((p2 &&& (1073741823 : Int32)) + (1 : Int32))) (FP.i2d ((p3 &&& (1073741823 : Int32)) + (1 : Int32)))))]) (rest := []) (lenOf pd__DD_V rfl) rfl (hb hby at_92) rfl e0 (by decide : 0 + 0 ≤ _) (by decide : 0 + 0 ≤ _)
      obtain ⟨rfl, N5q, hh5⟩ := hQ5
      have N5 := Fr.app N0 N5q
      have e5 : T5.heap = h0 := hh5
      have S6 : ∀ tz, oS p e below T5 (mkF m 96 #[.val (.long q0), .second, iv p1, iv p2, iv p3, iv p4, .val (.double FP.dconst0), .second, iv ((p4 &&& (3 : Int32))), .val (.double (FP.ddiv (FP.i2d ((p2 &&& (1073741823 : Int32)) + (1 : Int32))) (FP.i2d ((p3 &&& (1073741823 : Int32)) + (1 : Int32))))), .second] [(.int 1)]) tz → oS p e below s₁ (mkF m 0 #[.val (.long q0), .second, iv p1, iv p2, iv p3, iv p4, .unset, .unset, .unset, .unset, .unset] []) tz := fun tz kz => S3 tz (by
        show oS p e below s₁ (mkF m 51 #[.val (.long q0), .second, iv p1, iv p2, iv p3, iv p4, .val (.double FP.dconst0), .second, iv ((p4 &&& (3 : Int32))), .unset, .unset] [(.int (p4 &&& (4 : Int32)))]) _
        refine XS.ifYes X0.here hx rfl (pc0 := 51) (pc' := 70) rfl (hb hby at_51) rfl (XT.i0_eq_t hc51_4) (by decide) (by decide) ?_
        refine XS.iloadN X0.here hx rfl (hb hby at_70) rfl ?_
        refine X0.ldcI hx hown (mvT hZ (hw _ (own_w 1 rfl))) rfl (hb hby at_71) ?_
        refine XS.iand X0.here hx rfl (hb hby at_73) rfl ?_
        show oS p e below s₁ (mkF m 74 #[.val (.long q0), .second, iv p1, iv p2, iv p3, iv p4, .val (.double FP.dconst0), .second, iv ((p4 &&& (3 : Int32))), .unset, .unset] [(.int (p2 &&& (1073741823 : Int32)))]) _
        refine XT.iconstV X0.here hx rfl (1 : Int32) (hb hby at_74) (by decide) ?_
        refine XS.iadd X0.here hx rfl (hb hby at_75) rfl ?_
        refine XS.i2dS X0.here hx rfl (hb hby at_76) rfl rfl ?_
        refine XS.iload X0.here hx rfl (hb hby at_77) rfl ?_
        refine X0.ldcI hx hown (mvT hZ (hw _ (own_w 1 rfl))) rfl (hb hby at_79) ?_
        refine XS.iand X0.here hx rfl (hb hby at_81) rfl ?_
        refine XT.iconstV X0.here hx rfl (1 : Int32) (hb hby at_82) (by decide) ?_
        refine XS.iadd X0.here hx rfl (hb hby at_83) rfl ?_
        show oS p e below s₁ (mkF m 84 #[.val (.long q0), .second, iv p1, iv p2, iv p3, iv p4, .val (.double FP.dconst0), .second, iv ((p4 &&& (3 : Int32))), .unset, .unset] [(.int ((p3 &&& (1073741823 : Int32)) + (1 : Int32))), (.double (FP.i2d ((p2 &&& (1073741823 : Int32)) + (1 : Int32))))]) _
        refine XS.i2dS X0.here hx rfl (hb hby at_84) rfl rfl ?_
        refine XS.ddivS X0.here hx rfl (hb hby at_85) rfl (Jvm.Free.Fl.val64_no.mpr (Own.own_tolD (own_mu p2) (own_mu p3)).1) rfl ?_
        refine XS.dstore X0.here hx rfl (hb hby at_86) rfl (l' := #[.val (.long q0), .second, iv p1, iv p2, iv p3, iv p4, .val (.double FP.dconst0), .second, iv ((p4 &&& (3 : Int32))), .val (.double (FP.ddiv (FP.i2d ((p2 &&& (1073741823 : Int32)) + (1 : Int32))) (FP.i2d ((p3 &&& (1073741823 : Int32)) + (1 : Int32))))), .second]) rfl ?_
        refine XS.dload X0.here hx rfl (hb hby at_88) rfl ?_
        refine XS.dload X0.here hx rfl (hb hby at_90) rfl ?_
        refine st5 _ ?_
        refine XT.iconstV X5.here hx rfl (1 : Int32) (hb hby at_95) (by decide) ?_
        exact kz)
      obtain ⟨fs, hr, hrun, hended, hW, hsame⟩ := X5.leave (v := some (.int 1)) (fun h => by rw [Bd.returns] at h; cases h)
      refine ⟨_, _, pre0 _ (S6 _ ?_), hrun, hended, _, _, rfl, ?_, ⟨_, rfl⟩, hW, hsame.mono (by decide) (by decide)⟩
      · exact retN X5 hx (t := .boolean) Bd.returns (by simp) (hb hby at_96) hr
      · show Qrm0 Z q0 p1 p2 p3 p4 h0 n0 _ T5.heap _
        rw [e5]
        exact ⟨rfl, N5⟩
    · obtain ⟨_, T7, Lc7, X7, hQ7, st7⟩ := own_callS (W := 0) (y := mN0) X0 hx hZ hown (hw _ (own_w 2 rfl)) (hw _ (own_w 3 rfl)) (hw _ (own_w 4 rfl)) (hw _ (own_w 5 rfl)) (by decide) (rmChk l Z av0 hw [] FP.dconst0 (FP.dmul (FP.i2d ((p2 &&& (1073741823 : Int32)) + (1 : Int32))) (1 : UInt64)) h0 n0 Z0 (Or.inr (by decide +kernel)) (show _ < _ by decide +kernel) (Own.own_tolM (own_mu p2)).2) (by decide) (by decide) (g := (mkF m 92 #[.val (.long q0), .second, iv p1, iv p2, iv p3, iv p4, .val (.double FP.dconst0), .second, iv ((p4 &&& (3 : Int32))), .val (.double (FP.dmul (FP.i2d ((p2 &&& (1073741823 : Int32)) + (1 : Int32))) (1 : UInt64))), .second] [(.double (FP.dmul (FP.i2d ((p2 &&& (1073741823 : Int32)) + (1 : Int32))) (1 : UInt64))), (.double FP.dconst0)])) rfl (by rw [hml]; rfl) (argsL := [(.double FP.dconst0), (.double (FP.dmul (FP.i2d ((p2 &&& (1073741823 : Int32)) + (1 : Int32))) (1 : UInt64)))]) (rest := []) (lenOf pd__DD_V rfl) rfl (hb hby at_92) rfl e0 (by decide : 0 + 0 ≤ _) (by decide : 0 + 0 ≤ _)
      obtain ⟨rfl, N7q, hh7⟩ := hQ7
      have N7 := Fr.app N0 N7q
      have e7 : T7.heap = h0 := hh7
      have S8 : ∀ tz, oS p e below T7 (mkF m 96 #[.val (.long q0), .second, iv p1, iv p2, iv p3, iv p4, .val (.double FP.dconst0), .second, iv ((p4 &&& (3 : Int32))), .val (.double (FP.dmul (FP.i2d ((p2 &&& (1073741823 : Int32)) + (1 : Int32))) (1 : UInt64))), .second] [(.int 1)]) tz → oS p e below s₁ (mkF m 0 #[.val (.long q0), .second, iv p1, iv p2, iv p3, iv p4, .unset, .unset, .unset, .unset, .unset] []) tz := fun tz kz => S3 tz (by
        show oS p e below s₁ (mkF m 51 #[.val (.long q0), .second, iv p1, iv p2, iv p3, iv p4, .val (.double FP.dconst0), .second, iv ((p4 &&& (3 : Int32))), .unset, .unset] [(.int (p4 &&& (4 : Int32)))]) _
        refine XS.ifNo X0.here hx rfl (hb hby at_51) rfl (XT.i0_eq_f hc51_4) ?_
        refine XS.iloadN X0.here hx rfl (hb hby at_54) rfl ?_
        refine X0.ldcI hx hown (mvT hZ (hw _ (own_w 1 rfl))) rfl (hb hby at_55) ?_
        refine XS.iand X0.here hx rfl (hb hby at_57) rfl ?_
        show oS p e below s₁ (mkF m 58 #[.val (.long q0), .second, iv p1, iv p2, iv p3, iv p4, .val (.double FP.dconst0), .second, iv ((p4 &&& (3 : Int32))), .unset, .unset] [(.int (p2 &&& (1073741823 : Int32)))]) _
        refine XT.iconstV X0.here hx rfl (1 : Int32) (hb hby at_58) (by decide) ?_
        refine XS.iadd X0.here hx rfl (hb hby at_59) rfl ?_
        refine XS.i2dS X0.here hx rfl (hb hby at_60) rfl rfl ?_
        refine X0.ldc2DoubleC hx hown (mvT hZ (hw _ (own_w 8 rfl))) (g := (mkF m 61 #[.val (.long q0), .second, iv p1, iv p2, iv p3, iv p4, .val (.double FP.dconst0), .second, iv ((p4 &&& (3 : Int32))), .unset, .unset] [(.double (FP.i2d ((p2 &&& (1073741823 : Int32)) + (1 : Int32))))])) rfl (hb hby at_61) _ ?_
        refine XS.dmulS X0.here hx rfl (hb hby at_64) rfl (Jvm.Free.Fl.val64_no.mpr (Own.own_tolM (own_mu p2)).1) rfl ?_
        refine XS.dstore X0.here hx rfl (hb hby at_65) rfl (l' := #[.val (.long q0), .second, iv p1, iv p2, iv p3, iv p4, .val (.double FP.dconst0), .second, iv ((p4 &&& (3 : Int32))), .val (.double (FP.dmul (FP.i2d ((p2 &&& (1073741823 : Int32)) + (1 : Int32))) (1 : UInt64))), .second]) rfl ?_
        refine XS.goto X0.here hx rfl (pc0 := 67) (pc' := 88) rfl (hb hby at_67) (by decide) (by decide) ?_
        refine XS.dload X0.here hx rfl (hb hby at_88) rfl ?_
        show oS p e below s₁ (mkF m 90 #[.val (.long q0), .second, iv p1, iv p2, iv p3, iv p4, .val (.double FP.dconst0), .second, iv ((p4 &&& (3 : Int32))), .val (.double (FP.dmul (FP.i2d ((p2 &&& (1073741823 : Int32)) + (1 : Int32))) (1 : UInt64))), .second] [(.double FP.dconst0)]) _
        refine XS.dload X0.here hx rfl (hb hby at_90) rfl ?_
        refine st7 _ ?_
        refine XT.iconstV X7.here hx rfl (1 : Int32) (hb hby at_95) (by decide) ?_
        exact kz)
      obtain ⟨fs, hr, hrun, hended, hW, hsame⟩ := X7.leave (v := some (.int 1)) (fun h => by rw [Bd.returns] at h; cases h)
      refine ⟨_, _, pre0 _ (S8 _ ?_), hrun, hended, _, _, rfl, ?_, ⟨_, rfl⟩, hW, hsame.mono (by decide) (by decide)⟩
      · exact retN X7 hx (t := .boolean) Bd.returns (by simp) (hb hby at_96) hr
      · show Qrm0 Z q0 p1 p2 p3 p4 h0 n0 _ T7.heap _
        rw [e7]
        exact ⟨rfl, N7⟩
  · have S9 : ∀ tz, oS p e below s₁ (mkF m 20 #[.val (.long q0), .second, iv p1, iv p2, iv p3, iv p4, .unset, .unset, iv ((p4 &&& (3 : Int32))), .unset, .unset] [(.int 1), (.int (p4 &&& (3 : Int32)))]) tz → oS p e below s₁ (mkF m 0 #[.val (.long q0), .second, iv p1, iv p2, iv p3, iv p4, .unset, .unset, .unset, .unset, .unset] []) tz := fun tz kz => S1 tz (by
      show oS p e below s₁ (mkF m 8 #[.val (.long q0), .second, iv p1, iv p2, iv p3, iv p4, .unset, .unset, iv ((p4 &&& (3 : Int32))), .unset, .unset] [(.int (p4 &&& (3 : Int32)))]) _
      refine XS.ifYes X0.here hx rfl (pc0 := 8) (pc' := 17) rfl (hb hby at_8) rfl (XT.i0_ne_t hc8_2) (by decide) (by decide) ?_
      refine XS.iload X0.here hx rfl (hb hby at_17) rfl ?_
      refine XT.iconstV X0.here hx rfl (1 : Int32) (hb hby at_19) (by decide) ?_
      show oS p e below s₁ (mkF m 20 #[.val (.long q0), .second, iv p1, iv p2, iv p3, iv p4, .unset, .unset, iv ((p4 &&& (3 : Int32))), .unset, .unset] [(.int 1), (.int (p4 &&& (3 : Int32)))]) _
      exact kz)
    by_cases hc20_10 : (p4 &&& (3 : Int32)) = (1 : Int32)
    · have S11 : ∀ tz, oS p e below s₁ (mkF m 51 #[.val (.long q0), .second, iv p1, iv p2, iv p3, iv p4, .val (.double (9218868437227405311 : UInt64)), .second, iv ((p4 &&& (3 : Int32))), .unset, .unset] [(.int (p4 &&& (4 : Int32)))]) tz → oS p e below s₁ (mkF m 0 #[.val (.long q0), .second, iv p1, iv p2, iv p3, iv p4, .unset, .unset, .unset, .unset, .unset] []) tz := fun tz kz => S9 tz (by
        show oS p e below s₁ (mkF m 20 #[.val (.long q0), .second, iv p1, iv p2, iv p3, iv p4, .unset, .unset, iv ((p4 &&& (3 : Int32))), .unset, .unset] [(.int 1), (.int (p4 &&& (3 : Int32)))]) _
        refine XS.icmpNo X0.here hx rfl (hb hby at_20) rfl (XT.ii_ne_f hc20_10) ?_
        refine X0.ldc2DoubleC hx hown (mvT hZ (hw _ (own_w 7 rfl))) (g := (mkF m 23 #[.val (.long q0), .second, iv p1, iv p2, iv p3, iv p4, .unset, .unset, iv ((p4 &&& (3 : Int32))), .unset, .unset] [])) rfl (hb hby at_23) _ ?_
        refine XS.dstore X0.here hx rfl (hb hby at_26) rfl (l' := #[.val (.long q0), .second, iv p1, iv p2, iv p3, iv p4, .val (.double (9218868437227405311 : UInt64)), .second, iv ((p4 &&& (3 : Int32))), .unset, .unset]) rfl ?_
        refine XS.goto X0.here hx rfl (pc0 := 28) (pc' := 47) rfl (hb hby at_28) (by decide) (by decide) ?_
        refine XS.iload X0.here hx rfl (hb hby at_47) rfl ?_
        refine XT.iconstV X0.here hx rfl (4 : Int32) (hb hby at_49) (by decide) ?_
        refine XS.iand X0.here hx rfl (hb hby at_50) rfl ?_
        exact kz)
      by_cases hc51_12 : (p4 &&& (4 : Int32)) = (0 : Int32)
      · obtain ⟨_, T13, Lc13, X13, hQ13, st13⟩ := own_callS (W := 0) (y := mN0) X0 hx hZ hown (hw _ (own_w 2 rfl)) (hw _ (own_w 3 rfl)) (hw _ (own_w 4 rfl)) (hw _ (own_w 5 rfl)) (by decide) (rmChk l Z av0 hw [] (9218868437227405311 : UInt64) (FP.ddiv (FP.i2d ((p2 &&& (1073741823 : Int32)) + (1 : Int32))) (FP.i2d ((p3 &&& (1073741823 : Int32)) + (1 : Int32)))) h0 n0 Z0 (Or.inl (by decide +kernel)) (show _ < _ by decide +kernel) (Own.own_tolD (own_mu p2) (own_mu p3)).2) (by decide) (by decide) (g := (mkF m 92 #[.val (.long q0), .second, iv p1, iv p2, iv p3, iv p4, .val (.double (9218868437227405311 : UInt64)), .second, iv ((p4 &&& (3 : Int32))), .val (.double (FP.ddiv (FP.i2d ((p2 &&& (1073741823 : Int32)) + (1 : Int32))) (FP.i2d ((p3 &&& (1073741823 : Int32)) + (1 : Int32))))), .second] [(.double (FP.ddiv (FP.i2d ((p2 &&& (1073741823 : Int32)) + (1 : Int32))) (FP.i2d ((p3 &&& (1073741823 : Int32)) + (1 : Int32))))), (.double (9218868437227405311 : UInt64))])) rfl (by rw [hml]; rfl) (argsL := [(.double (9218868437227405311 : UInt64)), (.double (FP.ddiv (FP.i2d ((p2 &&& (1073741823 : Int32)) + (1 : Int32))) (FP.i2d ((p3 &&& (1073741823 : Int32)) + (1 : Int32)))))]) (rest := []) (lenOf pd__DD_V rfl) rfl (hb hby at_92) rfl e0 (by decide : 0 + 0 ≤ _) (by decide : 0 + 0 ≤ _)
        obtain ⟨rfl, N13q, hh13⟩ := hQ13
        have N13 := Fr.app N0 N13q
        have e13 : T13.heap = h0 := hh13
        have S14 : ∀ tz, oS p e below T13 (mkF m 96 #[.val (.long q0), .second, iv p1, iv p2, iv p3, iv p4, .val (.double (9218868437227405311 : UInt64)), .second, iv ((p4 &&& (3 : Int32))), .val (.double (FP.ddiv (FP.i2d ((p2 &&& (1073741823 : Int32)) + (1 : Int32))) (FP.i2d ((p3 &&& (1073741823 : Int32)) + (1 : Int32))))), .second] [(.int 1)]) tz → oS p e below s₁ (mkF m 0 #[.val (.long q0), .second, iv p1, iv p2, iv p3, iv p4, .unset, .unset, .unset, .unset, .unset] []) tz := fun tz kz => S11 tz (by
          show oS p e below s₁ (mkF m 51 #[.val (.long q0), .second, iv p1, iv p2, iv p3, iv p4, .val (.double (9218868437227405311 : UInt64)), .second, iv ((p4 &&& (3 : Int32))), .unset, .unset] [(.int (p4 &&& (4 : Int32)))]) _
          refine XS.ifYes X0.here hx rfl (pc0 := 51) (pc' := 70) rfl (hb hby at_51) rfl (XT.i0_eq_t hc51_12) (by decide) (by decide) ?_
          show oS p e below s₁ (mkF m 70 #[.val (.long q0), .second, iv p1, iv p2, iv p3, iv p4, .val (.double (9218868437227405311 : UInt64)), .second, iv ((p4 &&& (3 : Int32))), .unset, .unset] []) _
          refine XS.iloadN X0.here hx rfl (hb hby at_70) rfl ?_
          refine X0.ldcI hx hown (mvT hZ (hw _ (own_w 1 rfl))) rfl (hb hby at_71) ?_
          refine XS.iand X0.here hx rfl (hb hby at_73) rfl ?_
          refine XT.iconstV X0.here hx rfl (1 : Int32) (hb hby at_74) (by decide) ?_
          refine XS.iadd X0.here hx rfl (hb hby at_75) rfl ?_
          refine XS.i2dS X0.here hx rfl (hb hby at_76) rfl rfl ?_
          refine XS.iload X0.here hx rfl (hb hby at_77) rfl ?_
          refine X0.ldcI hx hown (mvT hZ (hw _ (own_w 1 rfl))) rfl (hb hby at_79) ?_
          show oS p e below s₁ (mkF m 81 #[.val (.long q0), .second, iv p1, iv p2, iv p3, iv p4, .val (.double (9218868437227405311 : UInt64)), .second, iv ((p4 &&& (3 : Int32))), .unset, .unset] [(.int 1073741823), (.int p3), (.double (FP.i2d ((p2 &&& (1073741823 : Int32)) + (1 : Int32))))]) _
          refine XS.iand X0.here hx rfl (hb hby at_81) rfl ?_
          refine XT.iconstV X0.here hx rfl (1 : Int32) (hb hby at_82) (by decide) ?_
          refine XS.iadd X0.here hx rfl (hb hby at_83) rfl ?_
          refine XS.i2dS X0.here hx rfl (hb hby at_84) rfl rfl ?_
          refine XS.ddivS X0.here hx rfl (hb hby at_85) rfl (Jvm.Free.Fl.val64_no.mpr (Own.own_tolD (own_mu p2) (own_mu p3)).1) rfl ?_
          refine XS.dstore X0.here hx rfl (hb hby at_86) rfl (l' := #[.val (.long q0), .second, iv p1, iv p2, iv p3, iv p4, .val (.double (9218868437227405311 : UInt64)), .second, iv ((p4 &&& (3 : Int32))), .val (.double (FP.ddiv (FP.i2d ((p2 &&& (1073741823 : Int32)) + (1 : Int32))) (FP.i2d ((p3 &&& (1073741823 : Int32)) + (1 : Int32))))), .second]) rfl ?_
          refine XS.dload X0.here hx rfl (hb hby at_88) rfl ?_
          refine XS.dload X0.here hx rfl (hb hby at_90) rfl ?_
          show oS p e below s₁ (mkF m 92 #[.val (.long q0), .second, iv p1, iv p2, iv p3, iv p4, .val (.double (9218868437227405311 : UInt64)), .second, iv ((p4 &&& (3 : Int32))), .val (.double (FP.ddiv (FP.i2d ((p2 &&& (1073741823 : Int32)) + (1 : Int32))) (FP.i2d ((p3 &&& (1073741823 : Int32)) + (1 : Int32))))), .second] [(.double (FP.ddiv (FP.i2d ((p2 &&& (1073741823 : Int32)) + (1 : Int32))) (FP.i2d ((p3 &&& (1073741823 : Int32)) + (1 : Int32))))), (.double (9218868437227405311 : UInt64))]) _
          refine st13 _ ?_
          refine XT.iconstV X13.here hx rfl (1 : Int32) (hb hby at_95) (by decide) ?_
          exact kz)
        obtain ⟨fs, hr, hrun, hended, hW, hsame⟩ := X13.leave (v := some (.int 1)) (fun h => by rw [Bd.returns] at h; cases h)
        refine ⟨_, _, pre0 _ (S14 _ ?_), hrun, hended, _, _, rfl, ?_, ⟨_, rfl⟩, hW, hsame.mono (by decide) (by decide)⟩
        · exact retN X13 hx (t := .boolean) Bd.returns (by simp) (hb hby at_96) hr
        · show Qrm0 Z q0 p1 p2 p3 p4 h0 n0 _ T13.heap _
          rw [e13]
          exact ⟨rfl, N13⟩
      · obtain ⟨_, T15, Lc15, X15, hQ15, st15⟩ := own_callS (W := 0) (y := mN0) X0 hx hZ hown (hw _ (own_w 2 rfl)) (hw _ (own_w 3 rfl)) (hw _ (own_w 4 rfl)) (hw _ (own_w 5 rfl)) (by decide) (rmChk l Z av0 hw [] (9218868437227405311 : UInt64) (FP.dmul (FP.i2d ((p2 &&& (1073741823 : Int32)) + (1 : Int32))) (1 : UInt64)) h0 n0 Z0 (Or.inl (by decide +kernel)) (show _ < _ by decide +kernel) (Own.own_tolM (own_mu p2)).2) (by decide) (by decide) (g := (mkF m 92 #[.val (.long q0), .second, iv p1, iv p2, iv p3, iv p4, .val (.double (9218868437227405311 : UInt64)), .second, iv ((p4 &&& (3 : Int32))), .val (.double (FP.dmul (FP.i2d ((p2 &&& (1073741823 : Int32)) + (1 : Int32))) (1 : UInt64))), .second] [(.double (FP.dmul (FP.i2d ((p2 &&& (1073741823 : Int32)) + (1 : Int32))) (1 : UInt64))), (.double (9218868437227405311 : UInt64))])) rfl (by rw [hml]; rfl) (argsL := [(.double (9218868437227405311 : UInt64)), (.double (FP.dmul (FP.i2d ((p2 &&& (1073741823 : Int32)) + (1 : Int32))) (1 : UInt64)))]) (rest := []) (lenOf pd__DD_V rfl) rfl (hb hby at_92) rfl e0 (by decide : 0 + 0 ≤ _) (by decide : 0 + 0 ≤ _)
        obtain ⟨rfl, N15q, hh15⟩ := hQ15
        have N15 := Fr.app N0 N15q
        have e15 : T15.heap = h0 := hh15
        have S16 : ∀ tz, oS p e below T15 (mkF m 96 #[.val (.long q0), .second, iv p1, iv p2, iv p3, iv p4, .val (.double (9218868437227405311 : UInt64)), .second, iv ((p4 &&& (3 : Int32))), .val (.double (FP.dmul (FP.i2d ((p2 &&& (1073741823 : Int32)) + (1 : Int32))) (1 : UInt64))), .second] [(.int 1)]) tz → oS p e below s₁ (mkF m 0 #[.val (.long q0), .second, iv p1, iv p2, iv p3, iv p4, .unset, .unset, .unset, .unset, .unset] []) tz := fun tz kz => S11 tz (by
          show oS p e below s₁ (mkF m 51 #[.val (.long q0), .second, iv p1, iv p2, iv p3, iv p4, .val (.double (9218868437227405311 : UInt64)), .second, iv ((p4 &&& (3 : Int32))), .unset, .unset] [(.int (p4 &&& (4 : Int32)))]) _
          refine XS.ifNo X0.here hx rfl (hb hby at_51) rfl (XT.i0_eq_f hc51_12) ?_
          show oS p e below s₁ (mkF m 54 #[.val (.long q0), .second, iv p1, iv p2, iv p3, iv p4, .val (.double (9218868437227405311 : UInt64)), .second, iv ((p4 &&& (3 : Int32))), .unset, .unset] []) _
          refine XS.iloadN X0.here hx rfl (hb hby at_54) rfl ?_
          refine X0.ldcI hx hown (mvT hZ (hw _ (own_w 1 rfl))) rfl (hb hby at_55) ?_
          refine XS.iand X0.here hx rfl (hb hby at_57) rfl ?_
          refine XT.iconstV X0.here hx rfl (1 : Int32) (hb hby at_58) (by decide) ?_
          refine XS.iadd X0.here hx rfl (hb hby at_59) rfl ?_
          refine XS.i2dS X0.here hx rfl (hb hby at_60) rfl rfl ?_
          refine X0.ldc2DoubleC hx hown (mvT hZ (hw _ (own_w 8 rfl))) (g := (mkF m 61 #[.val (.long q0), .second, iv p1, iv p2, iv p3, iv p4, .val (.double (9218868437227405311 : UInt64)), .second, iv ((p4 &&& (3 : Int32))), .unset, .unset] [(.double (FP.i2d ((p2 &&& (1073741823 : Int32)) + (1 : Int32))))])) rfl (hb hby at_61) _ ?_
          refine XS.dmulS X0.here hx rfl (hb hby at_64) rfl (Jvm.Free.Fl.val64_no.mpr (Own.own_tolM (own_mu p2)).1) rfl ?_
          show oS p e below s₁ (mkF m 65 #[.val (.long q0), .second, iv p1, iv p2, iv p3, iv p4, .val (.double (9218868437227405311 : UInt64)), .second, iv ((p4 &&& (3 : Int32))), .unset, .unset] [(.double (FP.dmul (FP.i2d ((p2 &&& (1073741823 : Int32)) + (1 : Int32))) (1 : UInt64)))]) _
          refine XS.dstore X0.here hx rfl (hb hby at_65) rfl (l' := #[.val (.long q0), .second, iv p1, iv p2, iv p3, iv p4, .val (.double (9218868437227405311 : UInt64)), .second, iv ((p4 &&& (3 : Int32))), .val (.double (FP.dmul (FP.i2d ((p2 &&& (1073741823 : Int32)) + (1 : Int32))) (1 : UInt64))), .second]) rfl ?_
          refine XS.goto X0.here hx rfl (pc0 := 67) (pc' := 88) rfl (hb hby at_67) (by decide) (by decide) ?_
          refine XS.dload X0.here hx rfl (hb hby at_88) rfl ?_
          refine XS.dload X0.here hx rfl (hb hby at_90) rfl ?_
          refine st15 _ ?_
          refine XT.iconstV X15.here hx rfl (1 : Int32) (hb hby at_95) (by decide) ?_
          exact kz)
        obtain ⟨fs, hr, hrun, hended, hW, hsame⟩ := X15.leave (v := some (.int 1)) (fun h => by rw [Bd.returns] at h; cases h)
        refine ⟨_, _, pre0 _ (S16 _ ?_), hrun, hended, _, _, rfl, ?_, ⟨_, rfl⟩, hW, hsame.mono (by decide) (by decide)⟩
        · exact retN X15 hx (t := .boolean) Bd.returns (by simp) (hb hby at_96) hr
        · show Qrm0 Z q0 p1 p2 p3 p4 h0 n0 _ T15.heap _
          rw [e15]
          exact ⟨rfl, N15⟩
    · have S17 : ∀ tz, oS p e below s₁ (mkF m 51 #[.val (.long q0), .second, iv p1, iv p2, iv p3, iv p4, .val (.double (FP.ddiv (FP.l2d (q0 &&& (9223372036854775807 : Int64))) (FP.i2d ((p1 &&& (1073741823 : Int32)) + (1 : Int32))))), .second, iv ((p4 &&& (3 : Int32))), .unset, .unset] [(.int (p4 &&& (4 : Int32)))]) tz → oS p e below s₁ (mkF m 0 #[.val (.long q0), .second, iv p1, iv p2, iv p3, iv p4, .unset, .unset, .unset, .unset, .unset] []) tz := fun tz kz => S9 tz (by
        show oS p e below s₁ (mkF m 20 #[.val (.long q0), .second, iv p1, iv p2, iv p3, iv p4, .unset, .unset, iv ((p4 &&& (3 : Int32))), .unset, .unset] [(.int 1), (.int (p4 &&& (3 : Int32)))]) _
        refine XS.icmpYes X0.here hx rfl (pc0 := 20) (pc' := 31) rfl (hb hby at_20) rfl (XT.ii_ne_t hc20_10) (by decide) (by decide) ?_
        refine XT.lloadN X0.here hx rfl (hb hby at_31) rfl ?_
        refine X0.ldc2J hx hown (mvT hZ (hw _ (own_w 0 rfl))) rfl (hb hby at_32) ?_
        refine XT.land X0.here hx rfl (hb hby at_35) rfl ?_
        refine XS.l2dS X0.here hx rfl (hb hby at_36) rfl rfl ?_
        refine XS.iloadN X0.here hx rfl (hb hby at_37) rfl ?_
        refine X0.ldcI hx hown (mvT hZ (hw _ (own_w 1 rfl))) rfl (hb hby at_38) ?_
        refine XS.iand X0.here hx rfl (hb hby at_40) rfl ?_
        show oS p e below s₁ (mkF m 41 #[.val (.long q0), .second, iv p1, iv p2, iv p3, iv p4, .unset, .unset, iv ((p4 &&& (3 : Int32))), .unset, .unset] [(.int (p1 &&& (1073741823 : Int32))), (.double (FP.l2d (q0 &&& (9223372036854775807 : Int64))))]) _
        refine XT.iconstV X0.here hx rfl (1 : Int32) (hb hby at_41) (by decide) ?_
        refine XS.iadd X0.here hx rfl (hb hby at_42) rfl ?_
        refine XS.i2dS X0.here hx rfl (hb hby at_43) rfl rfl ?_
        refine XS.ddivS X0.here hx rfl (hb hby at_44) rfl (own_timeF (q0 &&& (9223372036854775807 : Int64)) (own_mu p1)).noNaN rfl ?_
        refine XS.dstore X0.here hx rfl (hb hby at_45) rfl (l' := #[.val (.long q0), .second, iv p1, iv p2, iv p3, iv p4, .val (.double (FP.ddiv (FP.l2d (q0 &&& (9223372036854775807 : Int64))) (FP.i2d ((p1 &&& (1073741823 : Int32)) + (1 : Int32))))), .second, iv ((p4 &&& (3 : Int32))), .unset, .unset]) rfl ?_
        refine XS.iload X0.here hx rfl (hb hby at_47) rfl ?_
        refine XT.iconstV X0.here hx rfl (4 : Int32) (hb hby at_49) (by decide) ?_
        refine XS.iand X0.here hx rfl (hb hby at_50) rfl ?_
        show oS p e below s₁ (mkF m 51 #[.val (.long q0), .second, iv p1, iv p2, iv p3, iv p4, .val (.double (FP.ddiv (FP.l2d (q0 &&& (9223372036854775807 : Int64))) (FP.i2d ((p1 &&& (1073741823 : Int32)) + (1 : Int32))))), .second, iv ((p4 &&& (3 : Int32))), .unset, .unset] [(.int (p4 &&& (4 : Int32)))]) _
        exact kz)
      by_cases hc51_18 : (p4 &&& (4 : Int32)) = (0 : Int32)
      · obtain ⟨_, T19, Lc19, X19, hQ19, st19⟩ := own_callS (W := 0) (y := mN0) X0 hx hZ hown (hw _ (own_w 2 rfl)) (hw _ (own_w 3 rfl)) (hw _ (own_w 4 rfl)) (hw _ (own_w 5 rfl)) (by decide) (rmChk l Z av0 hw [] (FP.ddiv (FP.l2d (q0 &&& (9223372036854775807 : Int64))) (FP.i2d ((p1 &&& (1073741823 : Int32)) + (1 : Int32)))) (FP.ddiv (FP.i2d ((p2 &&& (1073741823 : Int32)) + (1 : Int32))) (FP.i2d ((p3 &&& (1073741823 : Int32)) + (1 : Int32)))) h0 n0 Z0 (own_timeN (own_mt q0) (own_mu p1)) (own_timeF _ (own_mu p1)) (Own.own_tolD (own_mu p2) (own_mu p3)).2) (by decide) (by decide) (g := (mkF m 92 #[.val (.long q0), .second, iv p1, iv p2, iv p3, iv p4, .val (.double (FP.ddiv (FP.l2d (q0 &&& (9223372036854775807 : Int64))) (FP.i2d ((p1 &&& (1073741823 : Int32)) + (1 : Int32))))), .second, iv ((p4 &&& (3 : Int32))), .val (.double (FP.ddiv (FP.i2d ((p2 &&& (1073741823 : Int32)) + (1 : Int32))) (FP.i2d ((p3 &&& (1073741823 : Int32)) + (1 : Int32))))), .second] [(.double (FP.ddiv (FP.i2d ((p2 &&& (1073741823 : Int32)) + (1 : Int32))) (FP.i2d ((p3 &&& (1073741823 : Int32)) + (1 : Int32))))), (.double (FP.ddiv (FP.l2d (q0 &&& (9223372036854775807 : Int64))) (FP.i2d ((p1 &&& (1073741823 : Int32)) + (1 : Int32)))))])) rfl (by rw [hml]; rfl) (argsL := [(.double (FP.ddiv (FP.l2d (q0 &&& (9223372036854775807 : Int64))) (FP.i2d ((p1 &&& (1073741823 : Int32)) + (1 : Int32))))), (.double (FP.ddiv (FP.i2d ((p2 &&& (1073741823 : Int32)) + (1 : Int32))) (FP.i2d ((p3 &&& (1073741823 : Int32)) + (1 : Int32)))))]) (rest := []) (lenOf pd__DD_V rfl) rfl (hb hby at_92) rfl e0 (by decide : 0 + 0 ≤ _) (by decide : 0 + 0 ≤ _)
        obtain ⟨rfl, N19q, hh19⟩ := hQ19
        have N19 := Fr.app N0 N19q
        have e19 : T19.heap = h0 := hh19
        have S20 : ∀ tz, oS p e below T19 (mkF m 96 #[.val (.long q0), .second, iv p1, iv p2, iv p3, iv p4, .val (.double (FP.ddiv (FP.l2d (q0 &&& (9223372036854775807 : Int64))) (FP.i2d ((p1 &&& (1073741823 : Int32)) + (1 : Int32))))), .second, iv ((p4 &&& (3 : Int32))), .val (.double (FP.ddiv (FP.i2d ((p2 &&& (1073741823 : Int32)) + (1 : Int32))) (FP.i2d ((p3 &&& (1073741823 : Int32)) + (1 : Int32))))), .second] [(.int 1)]) tz → oS p e below s₁ (mkF m 0 #[.val (.long q0), .second, iv p1, iv p2, iv p3, iv p4, .unset, .unset, .unset, .unset, .unset] []) tz := fun tz kz => S17 tz (by
          show oS p e below s₁ (mkF m 51 #[.val (.long q0), .second, iv p1, iv p2, iv p3, iv p4, .val (.double (FP.ddiv (FP.l2d (q0 &&& (9223372036854775807 : Int64))) (FP.i2d ((p1 &&& (1073741823 : Int32)) + (1 : Int32))))), .second, iv ((p4 &&& (3 : Int32))), .unset, .unset] [(.int (p4 &&& (4 : Int32)))]) _
          refine XS.ifYes X0.here hx rfl (pc0 := 51) (pc' := 70) rfl (hb hby at_51) rfl (XT.i0_eq_t hc51_18) (by decide) (by decide) ?_
          refine XS.iloadN X0.here hx rfl (hb hby at_70) rfl ?_
          refine X0.ldcI hx hown (mvT hZ (hw _ (own_w 1 rfl))) rfl (hb hby at_71) ?_
          refine XS.iand X0.here hx rfl (hb hby at_73) rfl ?_
          refine XT.iconstV X0.here hx rfl (1 : Int32) (hb hby at_74) (by decide) ?_
          refine XS.iadd X0.here hx rfl (hb hby at_75) rfl ?_
          refine XS.i2dS X0.here hx rfl (hb hby at_76) rfl rfl ?_
          refine XS.iload X0.here hx rfl (hb hby at_77) rfl ?_
          show oS p e below s₁ (mkF m 79 #[.val (.long q0), .second, iv p1, iv p2, iv p3, iv p4, .val (.double (FP.ddiv (FP.l2d (q0 &&& (9223372036854775807 : Int64))) (FP.i2d ((p1 &&& (1073741823 : Int32)) + (1 : Int32))))), .second, iv ((p4 &&& (3 : Int32))), .unset, .unset] [(.int p3), (.double (FP.i2d ((p2 &&& (1073741823 : Int32)) + (1 : Int32))))]) _
          refine X0.ldcI hx hown (mvT hZ (hw _ (own_w 1 rfl))) rfl (hb hby at_79) ?_
          refine XS.iand X0.here hx rfl (hb hby at_81) rfl ?_
          refine XT.iconstV X0.here hx rfl (1 : Int32) (hb hby at_82) (by decide) ?_
          refine XS.iadd X0.here hx rfl (hb hby at_83) rfl ?_
          refine XS.i2dS X0.here hx rfl (hb hby at_84) rfl rfl ?_
          refine XS.ddivS X0.here hx rfl (hb hby at_85) rfl (Jvm.Free.Fl.val64_no.mpr (Own.own_tolD (own_mu p2) (own_mu p3)).1) rfl ?_
          refine XS.dstore X0.here hx rfl (hb hby at_86) rfl (l' := #[.val (.long q0), .second, iv p1, iv p2, iv p3, iv p4, .val (.double (FP.ddiv (FP.l2d (q0 &&& (9223372036854775807 : Int64))) (FP.i2d ((p1 &&& (1073741823 : Int32)) + (1 : Int32))))), .second, iv ((p4 &&& (3 : Int32))), .val (.double (FP.ddiv (FP.i2d ((p2 &&& (1073741823 : Int32)) + (1 : Int32))) (FP.i2d ((p3 &&& (1073741823 : Int32)) + (1 : Int32))))), .second]) rfl ?_
          refine XS.dload X0.here hx rfl (hb hby at_88) rfl ?_
          show oS p e below s₁ (mkF m 90 #[.val (.long q0), .second, iv p1, iv p2, iv p3, iv p4, .val (.double (FP.ddiv (FP.l2d (q0 &&& (9223372036854775807 : Int64))) (FP.i2d ((p1 &&& (1073741823 : Int32)) + (1 : Int32))))), .second, iv ((p4 &&& (3 : Int32))), .val (.double (FP.ddiv (FP.i2d ((p2 &&& (1073741823 : Int32)) + (1 : Int32))) (FP.i2d ((p3 &&& (1073741823 : Int32)) + (1 : Int32))))), .second] [(.double (FP.ddiv (FP.l2d (q0 &&& (9223372036854775807 : Int64))) (FP.i2d ((p1 &&& (1073741823 : Int32)) + (1 : Int32)))))]) _
          refine XS.dload X0.here hx rfl (hb hby at_90) rfl ?_
          refine st19 _ ?_
          refine XT.iconstV X19.here hx rfl (1 : Int32) (hb hby at_95) (by decide) ?_
          exact kz)
        obtain ⟨fs, hr, hrun, hended, hW, hsame⟩ := X19.leave (v := some (.int 1)) (fun h => by rw [Bd.returns] at h; cases h)
        refine ⟨_, _, pre0 _ (S20 _ ?_), hrun, hended, _, _, rfl, ?_, ⟨_, rfl⟩, hW, hsame.mono (by decide) (by decide)⟩
        · exact retN X19 hx (t := .boolean) Bd.returns (by simp) (hb hby at_96) hr
        · show Qrm0 Z q0 p1 p2 p3 p4 h0 n0 _ T19.heap _
          rw [e19]
          exact ⟨rfl, N19⟩
      · obtain ⟨_, T21, Lc21, X21, hQ21, st21⟩ := own_callS (W := 0) (y := mN0) X0 hx hZ hown (hw _ (own_w 2 rfl)) (hw _ (own_w 3 rfl)) (hw _ (own_w 4 rfl)) (hw _ (own_w 5 rfl)) (by decide) (rmChk l Z av0 hw [] (FP.ddiv (FP.l2d (q0 &&& (9223372036854775807 : Int64))) (FP.i2d ((p1 &&& (1073741823 : Int32)) + (1 : Int32)))) (FP.dmul (FP.i2d ((p2 &&& (1073741823 : Int32)) + (1 : Int32))) (1 : UInt64)) h0 n0 Z0 (own_timeN (own_mt q0) (own_mu p1)) (own_timeF _ (own_mu p1)) (Own.own_tolM (own_mu p2)).2) (by decide) (by decide) (g := (mkF m 92 #[.val (.long q0), .second, iv p1, iv p2, iv p3, iv p4, .val (.double (FP.ddiv (FP.l2d (q0 &&& (9223372036854775807 : Int64))) (FP.i2d ((p1 &&& (1073741823 : Int32)) + (1 : Int32))))), .second, iv ((p4 &&& (3 : Int32))), .val (.double (FP.dmul (FP.i2d ((p2 &&& (1073741823 : Int32)) + (1 : Int32))) (1 : UInt64))), .second] [(.double (FP.dmul (FP.i2d ((p2 &&& (1073741823 : Int32)) + (1 : Int32))) (1 : UInt64))), (.double (FP.ddiv (FP.l2d (q0 &&& (9223372036854775807 : Int64))) (FP.i2d ((p1 &&& (1073741823 : Int32)) + (1 : Int32)))))])) rfl (by rw [hml]; rfl) (argsL := [(.double (FP.ddiv (FP.l2d (q0 &&& (9223372036854775807 : Int64))) (FP.i2d ((p1 &&& (1073741823 : Int32)) + (1 : Int32))))), (.double (FP.dmul (FP.i2d ((p2 &&& (1073741823 : Int32)) + (1 : Int32))) (1 : UInt64)))]) (rest := []) (lenOf pd__DD_V rfl) rfl (hb hby at_92) rfl e0 (by decide : 0 + 0 ≤ _) (by decide : 0 + 0 ≤ _)
        obtain ⟨rfl, N21q, hh21⟩ := hQ21
        have N21 := Fr.app N0 N21q
        have e21 : T21.heap = h0 := hh21
        have S22 : ∀ tz, oS p e below T21 (mkF m 96 #[.val (.long q0), .second, iv p1, iv p2, iv p3, iv p4, .val (.double (FP.ddiv (FP.l2d (q0 &&& (9223372036854775807 : Int64))) (FP.i2d ((p1 &&& (1073741823 : Int32)) + (1 : Int32))))), .second, iv ((p4 &&& (3 : Int32))), .val (.double (FP.dmul (FP.i2d ((p2 &&& (1073741823 : Int32)) + (1 : Int32))) (1 : UInt64))), .second] [(.int 1)]) tz → oS p e below s₁ (mkF m 0 #[.val (.long q0), .second, iv p1, iv p2, iv p3, iv p4, .unset, .unset, .unset, .unset, .unset] []) tz := fun tz kz => S17 tz (by
          show oS p e below s₁ (mkF m 51 #[.val (.long q0), .second, iv p1, iv p2, iv p3, iv p4, .val (.double (FP.ddiv (FP.l2d (q0 &&& (9223372036854775807 : Int64))) (FP.i2d ((p1 &&& (1073741823 : Int32)) + (1 : Int32))))), .second, iv ((p4 &&& (3 : Int32))), .unset, .unset] [(.int (p4 &&& (4 : Int32)))]) _
          refine XS.ifNo X0.here hx rfl (hb hby at_51) rfl (XT.i0_eq_f hc51_18) ?_
          refine XS.iloadN X0.here hx rfl (hb hby at_54) rfl ?_
          refine X0.ldcI hx hown (mvT hZ (hw _ (own_w 1 rfl))) rfl (hb hby at_55) ?_
          refine XS.iand X0.here hx rfl (hb hby at_57) rfl ?_
          refine XT.iconstV X0.here hx rfl (1 : Int32) (hb hby at_58) (by decide) ?_
          refine XS.iadd X0.here hx rfl (hb hby at_59) rfl ?_
          refine XS.i2dS X0.here hx rfl (hb hby at_60) rfl rfl ?_
          refine X0.ldc2DoubleC hx hown (mvT hZ (hw _ (own_w 8 rfl))) (g := (mkF m 61 #[.val (.long q0), .second, iv p1, iv p2, iv p3, iv p4, .val (.double (FP.ddiv (FP.l2d (q0 &&& (9223372036854775807 : Int64))) (FP.i2d ((p1 &&& (1073741823 : Int32)) + (1 : Int32))))), .second, iv ((p4 &&& (3 : Int32))), .unset, .unset] [(.double (FP.i2d ((p2 &&& (1073741823 : Int32)) + (1 : Int32))))])) rfl (hb hby at_61) _ ?_
          show oS p e below s₁ (mkF m 64 #[.val (.long q0), .second, iv p1, iv p2, iv p3, iv p4, .val (.double (FP.ddiv (FP.l2d (q0 &&& (9223372036854775807 : Int64))) (FP.i2d ((p1 &&& (1073741823 : Int32)) + (1 : Int32))))), .second, iv ((p4 &&& (3 : Int32))), .unset, .unset] [(.double (1 : UInt64)), (.double (FP.i2d ((p2 &&& (1073741823 : Int32)) + (1 : Int32))))]) _
          refine XS.dmulS X0.here hx rfl (hb hby at_64) rfl (Jvm.Free.Fl.val64_no.mpr (Own.own_tolM (own_mu p2)).1) rfl ?_
          refine XS.dstore X0.here hx rfl (hb hby at_65) rfl (l' := #[.val (.long q0), .second, iv p1, iv p2, iv p3, iv p4, .val (.double (FP.ddiv (FP.l2d (q0 &&& (9223372036854775807 : Int64))) (FP.i2d ((p1 &&& (1073741823 : Int32)) + (1 : Int32))))), .second, iv ((p4 &&& (3 : Int32))), .val (.double (FP.dmul (FP.i2d ((p2 &&& (1073741823 : Int32)) + (1 : Int32))) (1 : UInt64))), .second]) rfl ?_
          refine XS.goto X0.here hx rfl (pc0 := 67) (pc' := 88) rfl (hb hby at_67) (by decide) (by decide) ?_
          refine XS.dload X0.here hx rfl (hb hby at_88) rfl ?_
          refine XS.dload X0.here hx rfl (hb hby at_90) rfl ?_
          refine st21 _ ?_
          refine XT.iconstV X21.here hx rfl (1 : Int32) (hb hby at_95) (by decide) ?_
          exact kz)
        obtain ⟨fs, hr, hrun, hended, hW, hsame⟩ := X21.leave (v := some (.int 1)) (fun h => by rw [Bd.returns] at h; cases h)
        refine ⟨_, _, pre0 _ (S22 _ ?_), hrun, hended, _, _, rfl, ?_, ⟨_, rfl⟩, hW, hsame.mono (by decide) (by decide)⟩
        · exact retN X21 hx (t := .boolean) Bd.returns (by simp) (hb hby at_96) hr
        · show Qrm0 Z q0 p1 p2 p3 p4 h0 n0 _ T21.heap _
          rw [e21]
          exact ⟨rfl, N21⟩
set_option maxRecDepth 65536 in
set_option maxHeartbeats 40000000 in
theorem comes_1 {Post : Tables → Env → Array Value → State → Outcome → State → Prop} (hpost : ∀ tb e args s v u, (limb_1_1.after args s (.returned v) u = true ∧ limb_1_2.after args s (.returned v) u = true ∧ True) → FrameEnd s (.returned v) u (Jvm.fieldLocs frame_1_writes args s ++ Jvm.arrayLocs frame_1_arrays args s ++ Jvm.staticLocs frame_1_statics s) 0 0 → Post tb e args s (.returned v) u) :
    ArmFor flags0 classFile x code maxLocals ret World_1 tables_1 room_1 Calls_1 rest_1 Pre_1 Post := by
  intro l hfl _ _ p e ha hc hk s m args below hf hA hF happ hP
  obtain ⟨hcalls, hrest, hpre⟩ := hP
  obtain ⟨-, -, -, hnamed, -, -, -, hat⟩ := (Spec.applies_iff hf).mp happ
  obtain ⟨hg, hn⟩ := and_e (Cond.before_iff.mp (show (Jvm.Cond.and given_1 narrow_1).before args s = true from hpre))
  obtain ⟨g0, r0⟩ := and_e hg
  obtain ⟨g1, r1⟩ := and_e r0
  obtain ⟨g2, r2⟩ := and_e r1
  obtain ⟨g3, r3⟩ := and_e r2
  obtain ⟨g4, r4⟩ := and_e r3
  obtain ⟨w0, w1, w2, w3, w4, rfl⟩ : ∃ w0 w1 w2 w3 w4 : Value, args = #[w0, w1, w2, w3, w4] := by
    have hs : args.size = 5 := by simpa [Cond.value, given_1] using g0
    obtain ⟨L⟩ := args
    match L, hs with
    | [w0, w1, w2, w3, w4], _ => exact ⟨w0, w1, w2, w3, w4, rfl⟩
  have hw := fun d (hd : d ∈ tables_1) => atoms_spec (ws := Jvm.Cond.code x code maxLocals ret :: tables_1) hat d (List.mem_cons_of_mem _ hd)
  have hfit : Fit s := fun {y c} hc i hi => by
    obtain ⟨ha, rfl⟩ := Array.getElem?_eq_some_iff.mp hc
    have q := List.all_eq_true.mp ((Array.all_eq_true_iff_forall_mem.mp hF) _ (Array.getElem_mem ha)) i (List.mem_range.mpr hi)
    simpa [Array.getElem?_eq_getElem hi] using q
  obtain ⟨i0, ei0⟩ := isL_v g1
  obtain rfl : w0 = (.long i0) := Option.some.inj ei0
  obtain ⟨i1, ei1⟩ := is_v g2
  obtain rfl : w1 = (.int i1) := Option.some.inj ei1
  obtain ⟨i2, ei2⟩ := is_v g3
  obtain rfl : w2 = (.int i2) := Option.some.inj ei2
  obtain ⟨i3, ei3⟩ := is_v g4
  obtain rfl : w3 = (.int i3) := Option.some.inj ei3
  obtain ⟨i4, ei4⟩ := is_v r4
  obtain rfl : w4 = (.int i4) := Option.some.inj ei4
  obtain ⟨n, o, h1, h2, h3, _, L, rfl, ⟨rfl, N⟩, hq⟩ := rm0 l s _ hw tables_1 i0 i1 i2 i3 i4 s.heap s.heap.size (Nat.le_refl _)  p e ha hc hk s m _ below hf ((Spec.applies_iff_loose hf).mp happ).1 ⟨rfl, State.Warmed39.refl s, rfl⟩ trivial
  refine ⟨n, _, h1, h2, h3, hpost _ _ _ _ _ _ ⟨Cond.after_iff.mpr rfl, Cond.after_iff.mpr (eq_i res_at (Term.int_eval (1)) rfl), trivial⟩ ⟨hq.1, hq.2.1, (hq.2.2.sift fun y hy => Or.inr (N y hy)).mono (by decide) (by decide)⟩⟩
theorem main_1_1 : Claimed_1_1 := comes_1 fun _ _ _ _ _ _ h hF => ⟨h.1, hF⟩
theorem main_1_2 : Claimed_1_2 := comes_1 fun _ _ _ _ _ _ h hF => ⟨h.2.1, hF⟩
end Jvm.Pilot.@@N@@
namespace Jvm.Pilot.@@N@@
open Jvm Jvm.ClassFile Sem Op Lib Jvm.Free Jvm.Stand Jvm.Pilot.@@N@@.Jvm.D
/-! MADE BY PROGRAM (witnessworld.py) out of the Statement's table words and the real class files: 9 classes; the members and pool entries that the words name. The judged class is class 1, her method 1. -/
namespace start1
open Jvm.ClassFile
def u (s : String) : CpInfo := .utf8 (stringToUtf16 s)
/-- a pool by its gaps: so many unusable entries, then the entry; so many at the end -/
def gap : Nat → List CpInfo → List CpInfo
  | 0, r => r
  | n + 1, r => .unusable :: gap n r
def poolList (es : List (Nat × CpInfo)) (last : Nat) : List CpInfo := es.foldr (fun e r => gap e.1 (e.2 :: r)) (gap last [])
def pool (es : List (Nat × CpInfo)) (last : Nat) : Array CpInfo := ⟨poolList es last⟩
def fileOf (pool : Array CpInfo) (this : Nat) (attrs : Array Attribute := #[]) (ms : Array MethodInfo := #[]) (fl : Nat := 33) (sup : Nat := 0) (ifs : Array Nat := #[]) (fds : Array FieldInfo := #[]) : ClassFile where
  minorVersion := 0
  majorVersion := 65
  constantPool := pool
  accessFlags := fl
  thisClass := this
  superClass := sup
  interfaces := ifs
  fields := fds
  methods := ms
  attributes := attrs
def plain (name : String) (sup : Option ClassId) : Class where
  name := name
  kind := .ordinary
  loader := none
  accessFlags := 33
  super := sup
  interfaces := #[]
  cf := none
  fields := #[]
  methods := #[]
  instanceTypes := #[]
  staticTypes := #[]
  resolved := #[]
  callSites := []
  init := .initialized
  statics := none
  mirror := none

def pool0 : Array CpInfo := pool [(5, u "<init>"), (0, u "()V"), (1, .class_ 10), (1, u "java/lang/Object")] 113

def k0m0 : Method := { name := "<init>", desc := "()V", sig := { parameters := [], returnType := none }, accessFlags := 1, code := none }
/-- java/lang/Object -/
def k0 : Class := { plain "java/lang/Object" none with
  accessFlags := 33
  interfaces := #[]
  cf := some (fileOf pool0 8 #[] #[{ accessFlags := 1, nameIndex := 5, descriptorIndex := 6, attributes := #[] }] 33 0 #[] #[])
  fields := #[]
  methods := #[k0m0]
  instanceTypes := #[]
  staticTypes := #[]
  resolved := Array.replicate 124 none
  statics := none }

def pool1 : Array CpInfo := pool [(2, .class_ 4), (1, u "java/lang/Object"), (0, u "<init>"), (0, u "()V"), (0, .double 9218868437227405311), (3, .long 9223372036854775807), (1, .integer 1073741823), (0, .double 1), (1, .methodref 17 18), (0, .class_ 19), (0, .nameAndType 20 21), (0, u "com/example/prolong/prolong/ctmc/TransientSolver"), (0, u "checkSpan"), (0, u "(DD)V"), (0, .class_ 23), (0, u "com/example/prolong/prolong/ctmc/TransientSolverCheckSpanPinLaw"), (2, u "law"), (0, u "(JIIII)Z")] 3

def k1m0 : Method := { name := "<init>", desc := "()V", sig := { parameters := [], returnType := none }, accessFlags := 1, code := none }
def k1c1 : Code := { maxStack := 4, maxLocals := 11, code := code, exceptionTable := #[], attributes := #[] }
def k1m1 : Method := { name := "law", desc := "(JIIII)Z", sig := { parameters := [.long, .int, .int, .int, .int], returnType := some .boolean }, accessFlags := 9, code := some k1c1 }
/-- com/example/prolong/prolong/ctmc/TransientSolverCheckSpanPinLaw -/
def k1 : Class := { plain "com/example/prolong/prolong/ctmc/TransientSolverCheckSpanPinLaw" (some 0) with
  accessFlags := 49
  interfaces := #[]
  cf := some (fileOf pool1 22 #[] #[{ accessFlags := 1, nameIndex := 5, descriptorIndex := 6, attributes := #[] }, { accessFlags := 9, nameIndex := 26, descriptorIndex := 27, attributes := #[] }] 49 2 #[] #[])
  fields := #[]
  methods := #[k1m0, k1m1]
  instanceTypes := #[]
  staticTypes := #[]
  resolved := Array.replicate 31 none
  statics := none }

def pool2 : Array CpInfo := pool [(2, .class_ 4), (1, u "java/lang/Object"), (3, .class_ 10), (1, u "com/example/prolong/prolong/ctmc/TransientSolver"), (0, u "matrix"), (0, u "Lcom/example/prolong/prolong/ctmc/RateMatrix;"), (9, u "[D"), (8, u "rate"), (0, u "D"), (2, u "stay"), (2, u "current"), (2, u "next"), (2, u "sum"), (10, u "checkSpan"), (0, u "(DD)V"), (83, .double 9218868437227405312)] 46

def k2c0 : Code := { maxStack := 6, maxLocals := 4, code := prog_18_method_9_code, exceptionTable := #[], attributes := #[] }
def k2m0 : Method := { name := "checkSpan", desc := "(DD)V", sig := { parameters := [.double, .double], returnType := none }, accessFlags := 8, code := some k2c0 }
/-- com/example/prolong/prolong/ctmc/TransientSolver -/
def k2 : Class := { plain "com/example/prolong/prolong/ctmc/TransientSolver" (some 0) with
  accessFlags := 49
  interfaces := #[]
  cf := some (fileOf pool2 8 #[] #[{ accessFlags := 8, nameIndex := 55, descriptorIndex := 56, attributes := #[] }] 49 2 #[] #[{ accessFlags := 18, nameIndex := 11, descriptorIndex := 12, attributes := #[] }, { accessFlags := 18, nameIndex := 31, descriptorIndex := 32, attributes := #[] }, { accessFlags := 18, nameIndex := 35, descriptorIndex := 22, attributes := #[] }, { accessFlags := 18, nameIndex := 38, descriptorIndex := 22, attributes := #[] }, { accessFlags := 18, nameIndex := 41, descriptorIndex := 22, attributes := #[] }, { accessFlags := 18, nameIndex := 44, descriptorIndex := 22, attributes := #[] }])
  fields := #[{ name := "matrix", type := (.object "com/example/prolong/prolong/ctmc/RateMatrix"), accessFlags := 18, slot := 0, constantValue := 0 }, { name := "rate", type := .double, accessFlags := 18, slot := 1, constantValue := 0 }, { name := "stay", type := (.array .double), accessFlags := 18, slot := 2, constantValue := 0 }, { name := "current", type := (.array .double), accessFlags := 18, slot := 3, constantValue := 0 }, { name := "next", type := (.array .double), accessFlags := 18, slot := 4, constantValue := 0 }, { name := "sum", type := (.array .double), accessFlags := 18, slot := 5, constantValue := 0 }]
  methods := #[k2m0]
  instanceTypes := #[(.object "com/example/prolong/prolong/ctmc/RateMatrix"), .double, (.array .double), (.array .double), (.array .double), (.array .double)]
  staticTypes := #[]
  resolved := Array.replicate 187 none
  statics := none }

def pool3 : Array CpInfo := pool [(1, u "java/lang/Cloneable"), (0, .class_ 1), (0, u "java/lang/Object"), (0, .class_ 3)] 3

/-- java/lang/Cloneable -/
def k3 : Class := { plain "java/lang/Cloneable" (some 0) with
  accessFlags := 1537
  interfaces := #[]
  cf := some (fileOf pool3 2 #[] #[] 1537 4 #[] #[])
  fields := #[]
  methods := #[]
  instanceTypes := #[]
  staticTypes := #[]
  resolved := Array.replicate 8 none
  statics := none }

def pool4 : Array CpInfo := pool [(1, u "java/io/Serializable"), (0, .class_ 1), (0, u "java/lang/Object"), (0, .class_ 3)] 3

/-- java/io/Serializable -/
def k4 : Class := { plain "java/io/Serializable" (some 0) with
  accessFlags := 1537
  interfaces := #[]
  cf := some (fileOf pool4 2 #[] #[] 1537 4 #[] #[])
  fields := #[]
  methods := #[]
  instanceTypes := #[]
  staticTypes := #[]
  resolved := Array.replicate 8 none
  statics := none }

/-- the primitive byte -/
def k5 : Class := { plain "byte" none with kind := .primitive 'B', accessFlags := 0x411 }
/-- [B -/
def k6 : Class := { plain "[B" (some 0) with kind := .array 5 .byte, interfaces := #[3, 4], accessFlags := 1041 }

/-- the primitive int -/
def k7 : Class := { plain "int" none with kind := .primitive 'I', accessFlags := 0x411 }
/-- [I -/
def k8 : Class := { plain "[I" (some 0) with kind := .array 7 .int, interfaces := #[3, 4], accessFlags := 1041 }

def heap : Heap := #[]
def classes : Array Class := #[k0, k1, k2, k3, k4, k5, k6, k7, k8]
def interned : List (Array UInt16 × Addr) := []
def slotsUsed : Nat := 0
def theMethod : MethodId := ⟨1, 1⟩
def args0 : Array Value := #[.long 12, .int 3, .int 5, .int 7, .int 2]
def aboutOver (below : List Frame) : State where
  vm := { classes := classes, interned := interned.toArray }
  heap := heap
  slotsUsed := slotsUsed
  threads := #[{ frames := .invoking theMethod args0 :: below }]
def below0 : List Frame := [.native { method := ⟨0, 0⟩, args := #[] }]
def about1 : State := aboutOver below0
def p0 : Program := .bare "" "" ""
def e0 : Env := launch0.env 0 0 0
theorem w_frames : about1.frames = Frame.invoking theMethod args0 :: below0 := rfl
set_option maxRecDepth 65536 in
theorem w_args : argsFit about1.vm theMethod args0 = true := by decide +kernel
set_option maxRecDepth 65536 in
theorem w_heap : heapFits about1 = true := by decide +kernel
set_option maxRecDepth 65536 in
theorem w_runnable : about1.curStatus? = some .runnable := by decide +kernel
set_option maxRecDepth 65536 in
theorem w_alone : about1.alone = true := by decide +kernel
set_option maxRecDepth 65536 in
theorem w_named : about1.methodNamed? x = some theMethod := by decide +kernel
set_option maxRecDepth 65536 in
theorem w_hears : about1.hears theMethod below0 = true := by decide +kernel
set_option maxRecDepth 65536 in
theorem w_ripe : about1.ripe theMethod args0 below0 = true := by decide +kernel
theorem w_running : about1.status = .running := rfl
set_option maxRecDepth 65536 in
theorem w_room : about1.hasRoom e0.platform room_1 = true :=
  launch0.hasRoom_least _ room_1 (by decide +kernel) (by decide +kernel) (by decide +kernel) (by decide +kernel) (by decide +kernel) (by decide +kernel)
theorem allAtoms_all (ts : List Jvm.Cond) (a : Array Jvm.Value) (st : Jvm.State) : (allAtoms ts).before a st = ts.all (fun c => c.before a st) := by
  induction ts with
  | nil => rfl
  | cons c t ih =>
    show (Jvm.Cond.and c (allAtoms t)).before a st = _
    rw [Jvm.Cond.before_and, ih, List.all_cons]
def words1 : List Jvm.Cond := Jvm.Cond.code x code maxLocals ret :: tables_1
/-- a 'code' word, met by the world's own term for the bytes: nothing is compared byte by byte -/
theorem code_word {y : MethodName} {bytes : ByteArray} {mx : Nat} {rt : Option FieldType} {a : Array Value} {s : State} {m : MethodId} {meth : Method} {c : Code} (h1 : s.methodNamed? y = some m) (h2 : s.vm.method? m = some meth) (h3 : meth.code = some c) (h4 : c.code = bytes)
    (h5 : (c.maxLocals == mx && c.exceptionTable.isEmpty && decide (c.maxStack ≤ mostOperands) && decide (meth.sig.returnType = rt) && !meth.locks && decide (parseMethodDescriptor y.desc = some meth.sig)) = true) : (Jvm.Cond.code y bytes mx rt).before a s = true := by
  simp only [Bool.and_eq_true, beq_iff_eq, Bool.not_eq_true', decide_eq_true_eq] at h5
  obtain ⟨⟨⟨⟨⟨g1, g2⟩, g3⟩, g4⟩, g5⟩, g6⟩ := h5
  simp [Cond.before, Cond.holds, Cond.value, h1, h2, h3, h4, g1, g2, g3, g4, g5, g6]
def isCode : Jvm.Cond → Bool
  | .code _ _ _ _ => true
  | _ => false
theorem all_split {L : List Jvm.Cond} {P : Jvm.Cond → Bool} (h1 : L.all (fun c => isCode c || P c) = true) (h2 : ∀ c ∈ L.filter isCode, P c = true) : L.all P = true := by
  refine List.all_eq_true.mpr fun c hc => ?_
  have h := List.all_eq_true.mp h1 c hc
  rcases Bool.eq_false_or_eq_true (isCode c) with hi | hi
  · exact h2 c (List.mem_filter.mpr ⟨hc, hi⟩)
  · simpa [hi] using h
set_option maxRecDepth 65536 in
theorem w_c0 : (Jvm.Cond.code x code maxLocals ret).before args0 about1 = true := code_word (m := ⟨1, 1⟩) (meth := k1m1) (c := k1c1) (by decide +kernel) rfl rfl rfl (by decide +kernel)
set_option maxRecDepth 65536 in
theorem w_c1 : (Jvm.Cond.code ({ cls := "com/example/prolong/prolong/ctmc/TransientSolver", name := "checkSpan", desc := "(DD)V" } : Jvm.MethodName) prog_18_method_9_code (4 : Nat) (Option.none : Option Jvm.ClassFile.FieldType)).before args0 about1 = true := code_word (m := ⟨2, 0⟩) (meth := k2m0) (c := k2c0) (by decide +kernel) rfl rfl rfl (by decide +kernel)
def codes1 : List Jvm.Cond := [Jvm.Cond.code x code maxLocals ret, Jvm.Cond.code ({ cls := "com/example/prolong/prolong/ctmc/TransientSolver", name := "checkSpan", desc := "(DD)V" } : Jvm.MethodName) prog_18_method_9_code (4 : Nat) (Option.none : Option Jvm.ClassFile.FieldType)]
set_option maxRecDepth 65536 in
theorem codes_eq : words1.filter isCode = codes1 := rfl
theorem w_codes : ∀ c ∈ words1.filter isCode, c.before args0 about1 = true := by
  rw [codes_eq]
  intro c hc
  simp only [codes1, List.mem_cons, List.not_mem_nil, or_false] at hc
  rcases hc with rfl | rfl
  · exact w_c0
  · exact w_c1
set_option maxRecDepth 65536 in
theorem w_t1 : words1.all (fun c => isCode c || c.before args0 about1) = true := by decide +kernel
theorem w_tables : (allAtoms (Jvm.Cond.code x code maxLocals ret :: tables_1)).before args0 about1 = true := by
  rw [allAtoms_all]
  show words1.all (fun c => c.before args0 about1) = true
  refine all_split ?_ w_codes
  rw [w_t1]
set_option maxRecDepth 65536 in
theorem w_case : (Jvm.Cond.and given_1 narrow_1).before args0 about1 = true := by decide +kernel
theorem w_applies : (headSpec (Jvm.Cond.code x code maxLocals ret :: tables_1) room_1).applies x e0.platform about1 = true :=
  (Spec.applies_iff w_frames).mpr ⟨w_running, w_runnable, w_alone, w_named, w_hears, w_ripe, w_room, w_tables⟩
theorem atStart : AtStart classFile x code maxLocals ret World_1 tables_1 room_1 Calls_1 rest_1 Pre_1 launch0 p0 e0 about1 theMethod args0 below0 :=
  ⟨lists_1, trivial, launch0.admits_env _ _ _, launch0.least_env, fairChoices_fair.cas, fairChoices_fair.clock, w_frames, w_args, w_heap, w_applies, trivial, trivial, w_case⟩
end start1
theorem witness_1 : WitnessClaimed_1 := ⟨start1.p0, start1.e0, start1.about1, start1.theMethod, start1.args0, start1.below0, start1.atStart⟩
end Jvm.Pilot.@@N@@
