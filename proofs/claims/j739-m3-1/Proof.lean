import JvmDerived
import JvmDerived.Pilot.@@N@@Statement
import JvmDerived.Pilot.@@N@@Code
set_option linter.unusedVariables false
set_option linter.unusedSimpArgs false

namespace Jvm.RoadKit
open Sem ClassFile Op Lib Jvm.Stand Jvm.Free Jvm.LawKit
section New
variable {p : Program} {l : Launch} {e : Env} {R : Room} {s : State} {m : MethodId} {args : Array Value} {below : List Frame} {meth : Method} {c : Code} {T : State} {locs : List Loc} {cells slots : Nat}
theorem retI (X : Stand p l e R s m args below meth c T locs cells slots) (hx : p.tables.exec = Jvm.exec) {pc : Nat} {Ls : Array Slot} {z : Int32} {rest : List Value} (hret : meth.sig.returnType = some .int) (hd : decode c.code pc = .ok (.ireturn, 1)) {fs : List Frame}
    (hl : ∀ (f : JFrame) (acts : List Action), f.method = m → f.locked = none → f.entered = [] → (doReturn e (T.setTop f) acts (some (.int z))).1 = T.setFrames fs) : Steps p.tables e below (T.setTop (mkF m pc Ls (.int z :: rest))) (T.setFrames fs) := by
  have hm' : T.vm.method? m = some meth := X.method'
  have hn : narrow .int (.int z) = .int z := rfl
  show Steps p.tables e below (T.setTop { method := m, pc := pc, locals := Ls, stack := _ :: rest, locked := none }) _
  jvm_step X.here [X.here.top, hx, hd, hm', hret, hn]
  first | (intro acts; rw [hl _ acts rfl rfl rfl]) | rw [hl _ _ rfl rfl rfl]
  exact Steps.refl _
end New
end Jvm.RoadKit
namespace Own
open Jvm.FP.Core
theorem own_ddiv_int {k c : Int} {a b : UInt64} (ha : DInt (k * c) a) (hb : DInt c b) (hc : c ≠ 0) (hk : k.natAbs ≤ 2 ^ 53) : DInt k (ddiv a b) := by
  unfold DInt at *
  rw [val64_ddiv]
  cases hva : val64 a with
  | nan => rw [hva] at ha; exact ha.elim
  | inf => rw [hva] at ha; exact ha.elim
  | fin s x q =>
  cases hvb : val64 b with
  | nan => rw [hvb] at hb; exact hb.elim
  | inf => rw [hvb] at hb; exact hb.elim
  | fin t y r =>
  rw [hva] at ha; rw [hvb] at hb
  have hy : y ≠ 0 := fun z => hc ((whole_zero hb).mp z)
  show Whole k (if y = 0 then _ else roundRatio b64 (s != t) x y (q - r))
  rw [if_neg hy]
  have h1 := whole_natAbs ha
  have h2 := whole_natAbs hb
  have e : roundRatio b64 (s != t) x y (q - r) = roundRatio b64 (s != t) k.natAbs 1 0 := by
    refine roundRatio_congr (Nat.pos_of_ne_zero hy) (by decide) ?_
    rw [Int.natAbs_mul] at h1
    have e1 : (q - r - 0).toNat + (-q).toNat + r.toNat = (0 - (q - r)).toNat + q.toNat + (-r).toNat := by omega
    have p1 := Nat.two_pow_pos (q.toNat)
    have p2 := Nat.two_pow_pos ((-q).toNat)
    have p3 := Nat.two_pow_pos (r.toNat)
    have p4 := Nat.two_pow_pos ((-r).toNat)
    have hc' : 0 < c.natAbs := Int.natAbs_pos.mpr hc
    refine Nat.eq_of_mul_eq_mul_right (Nat.mul_pos hc' (Nat.mul_pos (Nat.mul_pos p1 p2) (Nat.mul_pos p3 p4))) ?_
    calc x * 1 * 2 ^ (q - r - 0).toNat * (c.natAbs * (2 ^ q.toNat * 2 ^ (-q).toNat * (2 ^ r.toNat * 2 ^ (-r).toNat)))
        = (x * 2 ^ q.toNat) * (c.natAbs * 2 ^ (-r).toNat) * (2 ^ ((q - r - 0).toNat + (-q).toNat + r.toNat)) := by simp only [Nat.pow_add, Nat.mul_one]; ac_rfl
      _ = (k.natAbs * c.natAbs * 2 ^ (-q).toNat) * (y * 2 ^ r.toNat) * (2 ^ ((0 - (q - r)).toNat + q.toNat + (-r).toNat)) := by rw [h1, h2, e1]
      _ = k.natAbs * y * 2 ^ (0 - (q - r)).toNat * (c.natAbs * (2 ^ q.toNat * 2 ^ (-q).toNat * (2 ^ r.toNat * 2 ^ (-r).toNat))) := by simp only [Nat.pow_add]; ac_rfl
  rw [e]
  have hw : Whole k (.fin (s != t) k.natAbs 0) := by
    show signed (s != t) (k.natAbs * 1) = k * ((1 : Nat) : Int)
    rw [Nat.mul_one]
    by_cases hk0 : k = 0
    · rw [hk0]; simp [signed]
    · have hs := whole_sign ha (Int.mul_ne_zero hk0 hc)
      have ht := whole_sign hb hc
      rw [hs, ht]
      unfold signed
      rcases Int.lt_or_gt_of_ne hk0 with h | h <;> rcases Int.lt_or_gt_of_ne hc with g | g
      · have := Int.mul_pos_of_neg_of_neg h g; simp [g, show ¬ k * c < 0 by omega]; omega
      · have := Int.mul_neg_of_neg_of_pos h g; simp [show ¬ c < 0 by omega, this]; omega
      · have := Int.mul_neg_of_pos_of_neg h g; simp [g, this]; omega
      · have := Int.mul_pos h g; simp [show ¬ c < 0 by omega, show ¬ k * c < 0 by omega]; omega
  exact whole_round good_b64 wide_b64 (show _ ≤ 2 ^ 53 from hk) hw
theorem own_dneg_int {i : Int} {a : UInt64} (h : DInt i a) : DInt (-i) (Jvm.FP.dneg a) := by
  unfold DInt at *
  rw [Jvm.FP.val64_dneg]; exact whole_negate h
theorem own_nn {i : Int} {a : UInt64} (h : DInt i a) : val64 a ≠ .nan := fun q => by
  unfold DInt at h; rw [q] at h; exact h
theorem own_zint : DInt 0 Jvm.FP.dconst0 := by
  show Whole 0 (val64 dconst0)
  rw [val64_dconst0]; simp [Whole, signed]
theorem own_cmp {i j : Int} {a b : UInt64} (ha : DInt i a) (hb : DInt j b) (h : i = j) : Jvm.FP.dcmp a b = some .eq := by
  rw [show Jvm.FP.dcmp a b = some (compare i j) from dcmp_int ha hb, h, compare_self_int]
theorem own_cmpn {i j : Int} {a b : UInt64} (ha : DInt i a) (hb : DInt j b) (h : ¬ i = j) : Jvm.FP.dcmp a b = some .lt ∨ Jvm.FP.dcmp a b = some .gt := by
  rw [show Jvm.FP.dcmp a b = some (compare i j) from dcmp_int ha hb]
  rcases Int.lt_or_gt_of_ne h with q | q
  · left; rw [Int.compare_eq_lt.mpr q]
  · right; rw [Int.compare_eq_gt.mpr q]
end Own
namespace Jvm.Pilot.@@N@@
open Jvm Jvm.ClassFile Sem Op Lib Jvm.Free Jvm.Stand Jvm.LawKit Jvm.RoadKit Bundle Jvm.Pilot.@@N@@.Jvm.D
theorem own_stak {Z : State} {h h' : Heap} {C n d : String} {v : Value} {ws : List Addr} (F : Sta Z h C n d v) (K : Keep h h' ws) (q : ∀ x ∈ ws, ∀ c : Cell, h[x]? = some c → c.vm.isStatics = false) : Sta Z h' C n d v := by
  obtain ⟨cf, i, k, f, st, cell, h1, h2, h3, h4, h5, h6, h7⟩ := F
  refine ⟨cf, i, k, f, st, cell, h1, h2, h3, h4, K.2.1 st cell h5 (fun hm => ?_), h6, h7⟩
  have e := q st hm cell h5
  rw [h6] at e; cases e
theorem own_exns {Z : State} {h : Heap} {a : Addr} {C : String} (E : Exa Z h a C) : ∀ c : Cell, h[a]? = some c → c.vm.isStatics = false := fun c hc => by
  obtain ⟨c', k, e1, -, -, e4, -⟩ := E
  cases hc.symm.trans e1; exact e4
theorem own_arns {Z : State} {h : Heap} {a : Addr} {k : ClassId} {ty : FieldType} {z : Int32} {vs : List Value} {d : Value} (A : Arv Z h a k ty z vs d) : ∀ c : Cell, h[a]? = some c → c.vm.isStatics = false := fun c hc => by
  obtain ⟨c', A', -⟩ := A
  have e := A'.plain
  cases hc.symm.trans A'.1; exact e
abbrev oS (p : Program) (e : Env) (below : List Frame) (T : State) (g : JFrame) (t : State) : Prop := Steps p.tables e below (T.setTop g) t
theorem own_w (i : Nat) {d : Jvm.Cond} (h : tables_1[i]? = some d) : d ∈ tables_1 := List.mem_of_getElem? h
abbrev own_Met (l : Launch) (y : MethodName) (bytes : ByteArray) (maxL : Nat) (ret : Option FieldType) (ws : List Jvm.Cond) (rm : Room) (as' : Array Value) (Z : State) (h0 : Heap) (Q : Option Value → Heap → List Loc → Prop) : Prop :=
  MetFree l y (head1 (Jvm.Cond.code y bytes maxL ret :: ws) rm) (fun aU U => aU = as' ∧ Z.Warmed39 U.vm ∧ U.heap = h0) (fun _ _ _ _ _ => True) (fun _ U oU U' => ∃ vU LU, oU = .returned vU ∧ Q vU U'.heap LU ∧ FrameEnd U oU U' LU rm.cells rm.slots)
theorem own_weak {l : Launch} {y : MethodName} {bytes : ByteArray} {maxL : Nat} {ret : Option FieldType} {ws : List Jvm.Cond} {rm : Room} {as' : Array Value} {Z : State} {h0 : Heap} {Q Q' : Option Value → Heap → List Loc → Prop} (h : own_Met l y bytes maxL ret ws rm as' Z h0 Q) (hq : ∀ v t L, Q v t L → Q' v t L) : own_Met l y bytes maxL ret ws rm as' Z h0 Q' := by
  intro p e ha hc hk s m args below hf happ hP hK
  obtain ⟨n, o, h1, h2, h3, v, L, h4, h5, h6⟩ := h p e ha hc hk s m args below hf happ hP hK
  exact ⟨n, o, h1, h2, h3, v, L, h4, hq _ _ _ h5, h6⟩
theorem own_start {p : Program} {l : Launch} {y : MethodName} {ws : List Jvm.Cond} {rm : Room} {code : ByteArray} {maxL : Nat} {ret : Option FieldType} {e : Env} {s : State} {m : MethodId} {args : Array Value} {below : List Frame} {meth : Method} {c : Code} {s₁ : State} {h0 : Heap}
    (Bd : BodyLoose p l y (head1 ws rm) code maxL ret e s m args below meth c s₁) (hml : c.maxLocals = maxL) (hh : s.heap = h0) :
    p.tables.exec = Jvm.exec ∧ c.code = code ∧ s.vm.findClass y.cls = some m.cls ∧ meth.name = y.name ∧ Stand p l e rm s m args below meth c s₁ [] 0 0 ∧ s₁.heap = h0 :=
  ⟨Bd.exec, Bd.bytes, findClass_of_methodNamed Bd.named, (name_of_methodNamed Bd.named Bd.method).1, Stand.of_body Bd, by rw [← hh, Bd.state]; rfl⟩
section OwnCalls
variable {p : Program} {l : Launch} {e : Env} {R : Room} {s : State} {m : MethodId} {args : Array Value} {below : List Frame} {meth : Method} {c : Code} {T : State} {locs : List Loc} {cells slots : Nat} {Z : State} {a0 : Array Value} {h : Heap}
  {own : String} {index : Nat} {y z : MethodName} {bytes : ByteArray} {maxL : Nat} {ret : Option FieldType} {rm : Room} {W : Nat} {as' : Array Value} {Q : Option Value → Heap → List Loc → Prop}
theorem own_callS (X : Stand p l e R s m args below meth c T locs cells slots) (hx : p.tables.exec = Jvm.exec) (hZ : Z.Warmed39 s.vm) (hown : s.vm.findClass own = some m.cls) (hlink : (Cond.methodLink own index y).before a0 Z = true) (hstat : (Cond.static y).before a0 Z = true) (hinit : (Cond.initialized y.cls).before a0 Z = true)
    (hcode : (Cond.code y bytes maxL ret).before a0 Z = true) (hy : y.cls ≠ "java/lang/invoke/MethodHandle" ∧ y.cls ≠ "java/lang/invoke/VarHandle")
    (hM : own_Met l y bytes maxL ret [] rm as' Z h Q)
    (hf : rm.frames + 1 ≤ R.frames) (hl : W + (maxL + 11) + rm.locals ≤ R.locals) {g : JFrame} (hg : g.method = m) (hsize : g.locals.size = c.maxLocals) {argsL rest : List Value} (hlen : ∀ sig, parseMethodDescriptor y.desc = some sig → argsL.length = sig.parameters.length)
    (hstack : g.stack = argsL.reverse ++ rest) (hdg : decode c.code g.pc = .ok (.invokestatic index, 3)) (has : argsL.toArray = as') (eT : T.heap = h) (hc : cells + rm.cells ≤ R.cells) (hs : slots + rm.slots ≤ R.slots) (hW : 2 * g.monitorRoom + (rest.map fun v => v.category).sum ≤ W := by show 2 * 0 + _ ≤ _; exact Nat.le_of_eq rfl) :
    ∃ (v : Option Value) (T' : State) (L : List Loc), Stand p l e R s m args below meth c T' (locs ++ L) (cells + rm.cells) (slots + rm.slots) ∧ Q v T'.heap L ∧ ∀ target, Steps p.tables e below (T'.setTop { g with pc := g.pc + 3, stack := v.toList ++ rest }) target → Steps p.tables e below (T.setTop g) target := by
  obtain ⟨v, _, ⟨T3, L3, k3, n3⟩, -, X3, ⟨Lc3, hQ3, l3, y3, z3⟩, st3⟩ := Jvm.LawKit.callS X hx hown (mvT hZ hlink) (mvT hZ hstat) (mvT hZ hinit) (mvT hZ hcode) hy (backOf (W := W) hM hZ hcode hinit hf hl) hg hsize hlen hstack hW hdg (fun _ _ => ⟨has, eT, hc, hs⟩)
  dsimp only [Pt.U, Pt.locs, Pt.cells, Pt.slots] at X3 l3 y3 z3 st3 hQ3
  subst l3 y3 z3
  exact ⟨v, T3, Lc3, X3, hQ3, st3⟩
theorem own_special (X : Stand p l e R s m args below meth c T locs cells slots) (hx : p.tables.exec = Jvm.exec) (hZ : Z.Warmed39 s.vm) (hy1 : y.name = "<init>") (hown : s.vm.findClass own = some m.cls) (hlink : (Cond.methodLink own index y).before a0 Z = true) (hinst : (Cond.instanceMethod y).before a0 Z = true)
    (hcode : (Cond.code y bytes maxL none).before a0 Z = true) (hinit : (Cond.initialized y.cls).before a0 Z = true) (hy : y.cls ≠ "java/lang/invoke/MethodHandle" ∧ y.cls ≠ "java/lang/invoke/VarHandle")
    (hM : own_Met l y bytes maxL none [] rm as' Z h Q)
    (hf : rm.frames + 1 ≤ R.frames) (hl : W + (maxL + 11) + rm.locals ≤ R.locals) {g : JFrame} (hg : g.method = m) (hsize : g.locals.size = c.maxLocals) {a : Addr} {argsL rest : List Value} (hlen : ∀ sig, parseMethodDescriptor y.desc = some sig → argsL.length = sig.parameters.length)
    (hstack : g.stack = argsL.reverse ++ .ref a :: rest) (hdg : decode c.code g.pc = .ok (.invokespecial index, 3)) (has : (.ref a :: argsL).toArray = as') (eT : T.heap = h) (hc : cells + rm.cells ≤ R.cells) (hs : slots + rm.slots ≤ R.slots) (hW : 2 * g.monitorRoom + (rest.map fun v => v.category).sum ≤ W := by show 2 * 0 + _ ≤ _; exact Nat.le_of_eq rfl) :
    ∃ (v : Option Value) (T' : State) (L : List Loc), Stand p l e R s m args below meth c T' (locs ++ L) (cells + rm.cells) (slots + rm.slots) ∧ Q v T'.heap L ∧ ∀ target, Steps p.tables e below (T'.setTop { g with pc := g.pc + 3, stack := v.toList ++ rest }) target → Steps p.tables e below (T.setTop g) target := by
  obtain ⟨v, _, ⟨T3, L3, k3, n3⟩, -, X3, ⟨Lc3, hQ3, l3, y3, z3⟩, st3⟩ := X.specialBack hx hy1 hown (mvT hZ hlink) (mvT hZ hinst) (mvT hZ hcode) hy (backOf (W := W) hM hZ hcode hinit hf hl) hg hsize (Steps.refl _) hlen hstack hW hdg (fun _ _ => ⟨has, eT, hc, hs⟩)
  dsimp only [Pt.U, Pt.locs, Pt.cells, Pt.slots] at X3 l3 y3 z3 st3 hQ3
  subst l3 y3 z3
  exact ⟨v, T3, Lc3, X3, hQ3, fun target k => st3.trans k⟩
theorem own_virtual (X : Stand p l e R s m args below meth c T locs cells slots) (hx : p.tables.exec = Jvm.exec) (hZ : Z.Warmed39 s.vm) {C : String} (hown : s.vm.findClass own = some m.cls) (hlink : (Cond.methodLink own index y).before a0 Z = true) (hdecl : (Cond.declares y).before a0 Z = true) (hnf : NotFace s y) (hsel : (Cond.selects C y z).before a0 Z = true) (hinst : (Cond.instanceMethod z).before a0 Z = true)
    (hcode : (Cond.code z bytes maxL ret).before a0 Z = true) (hinit : (Cond.initialized z.cls).before a0 Z = true) (hy : y.cls ≠ "java/lang/invoke/MethodHandle" ∧ y.cls ≠ "java/lang/invoke/VarHandle")
    (hM : own_Met l z bytes maxL ret [] rm as' Z h Q)
    (hf : rm.frames + 1 ≤ R.frames) (hl : W + (maxL + 11) + rm.locals ≤ R.locals) {a : Addr} (E : Exa Z h a C) {g : JFrame} (hg : g.method = m) (hsize : g.locals.size = c.maxLocals) {argsL rest : List Value} (hlen : ∀ sig, parseMethodDescriptor y.desc = some sig → argsL.length = sig.parameters.length)
    (hstack : g.stack = argsL.reverse ++ .ref a :: rest) (hdg : decode c.code g.pc = .ok (.invokevirtual index, 3)) (has : (.ref a :: argsL).toArray = as') (eT : T.heap = h) (hc : cells + rm.cells ≤ R.cells) (hs : slots + rm.slots ≤ R.slots) (hW : 2 * g.monitorRoom + (rest.map fun v => v.category).sum ≤ W := by show 2 * 0 + _ ≤ _; exact Nat.le_of_eq rfl) :
    ∃ (v : Option Value) (T' : State) (L : List Loc), Stand p l e R s m args below meth c T' (locs ++ L) (cells + rm.cells) (slots + rm.slots) ∧ Q v T'.heap L ∧ ∀ target, Steps p.tables e below (T'.setTop { g with pc := g.pc + 3, stack := v.toList ++ rest }) target → Steps p.tables e below (T.setTop g) target := by
  obtain ⟨cq, kq, qa, qb, qc⟩ := isOf hZ eT E
  obtain ⟨v, _, ⟨T3, L3, k3, n3⟩, -, X3, ⟨Lc3, hQ3, l3, y3, z3⟩, st3⟩ := X.virtualBack hx hown (mvT hZ hlink) (mvT hZ hdecl) hnf (mvT hZ hsel) (mvT hZ hinst) hy (backOf (W := W) hM hZ hcode hinit hf hl) qa qc hg hsize (Steps.refl _) hlen hstack hW hdg (fun _ _ => ⟨has, eT, hc, hs⟩)
  dsimp only [Pt.U, Pt.locs, Pt.cells, Pt.slots] at X3 l3 y3 z3 st3 hQ3
  subst l3 y3 z3
  exact ⟨v, T3, Lc3, X3, hQ3, fun target k => st3.trans k⟩
end OwnCalls
abbrev mN0 : MethodName := ⟨"java/util/OptionalDouble", "<init>", "(D)V"⟩
abbrev mN1 : MethodName := ⟨"java/util/OptionalDouble", "of", "(D)Ljava/util/OptionalDouble;"⟩
abbrev mN2 : MethodName := ⟨"java/util/OptionalDouble", "empty", "()Ljava/util/OptionalDouble;"⟩
abbrev mN3 : MethodName := ⟨"java/util/OptionalDouble", "isPresent", "()Z"⟩
abbrev mN4 : MethodName := ⟨"java/util/OptionalDouble", "getAsDouble", "()D"⟩
abbrev mN5 : MethodName := ⟨"java/lang/Record", "<init>", "()V"⟩
abbrev mN6 : MethodName := ⟨"com/example/graftwork/graftwork/simulate/Summary", "<init>", "(DIIDDIDD)V"⟩
abbrev mN7 : MethodName := ⟨"com/example/graftwork/graftwork/simulate/Summary", "revenueCostRatio", "()Ljava/util/OptionalDouble;"⟩
def own_k (y : Int32) : Int32 := y - (y / 1048576) * 1048576
def own_cc (y : Int32) : Int32 := y - (y / 2048) * 2048
theorem own_kb (y : Int32) : -1048576 < (own_k y).toInt ∧ (own_k y).toInt < 1048576 := by
  unfold own_k; rw [irem_eq_mod]
  have h := c_irem y 1048576 1048576 rfl
  rcases Int.lt_or_le y.toInt 0 with q | q
  · rw [h.2 q]; omega
  · rw [h.1 q]; omega
theorem own_cb (y : Int32) : -2048 < (own_cc y).toInt ∧ (own_cc y).toInt < 2048 := by
  unfold own_cc; rw [irem_eq_mod]
  have h := c_irem y 2048 2048 rfl
  rcases Int.lt_or_le y.toInt 0 with q | q
  · rw [h.2 q]; omega
  · rw [h.1 q]; omega
theorem own_mulb {x y A B : Int} (h1 : -A < x) (h2 : x < A) (h3 : -B < y) (h4 : y < B) : (x * y).natAbs ≤ (A * B).natAbs := by
  rw [Int.natAbs_mul, Int.natAbs_mul]; exact Nat.mul_le_mul (by omega) (by omega)
theorem own_prod (y z : Int32) : ((own_k y).toInt64 * (own_cc z).toInt64).toInt = (own_k y).toInt * (own_cc z).toInt ∧ ((own_k y).toInt * (own_cc z).toInt).natAbs ≤ 2147483648 := by
  have hk := own_kb y
  have hc := own_cb z
  have hb := own_mulb (A := 1048576) (B := 2048) hk.1 hk.2 hc.1 hc.2
  have hb2 : ((own_k y).toInt * (own_cc z).toInt).natAbs ≤ 2147483648 := hb
  have hm := c_lmul (own_k y).toInt64 (own_cc z).toInt64
  rw [c_i2l, c_i2l] at hm
  have hr := rng64 ((own_k y).toInt64 * (own_cc z).toInt64)
  refine ⟨?_, hb2⟩
  omega
theorem own_neg (y : Int32) : (-(own_k y)).toInt = -(own_k y).toInt := by
  have hk := own_kb y
  have hm := c_ineg (own_k y)
  have hr := rng32 (-(own_k y))
  omega
theorem own_rev (y z : Int32) : Jvm.FP.Core.DInt ((own_k y).toInt * (own_cc z).toInt) (FP.l2d ((own_k y).toInt64 * (own_cc z).toInt64)) := by
  have h := own_prod y z
  rw [← h.1]
  exact Jvm.FP.Core.l2d_int (by rw [h.1]; exact Nat.le_trans h.2 (by decide))
theorem own_cnz {z : Int32} (h : ¬ own_cc z = 0) : (own_cc z).toInt ≠ 0 := fun q => h (Int32.toInt_inj.mp q)
theorem own_quP (y : Int32) {z : Int32} (h : ¬ own_cc z = 0) : Jvm.FP.Core.DInt (own_k y).toInt (FP.ddiv (FP.l2d ((own_k y).toInt64 * (own_cc z).toInt64)) (FP.i2d (own_cc z))) :=
  Own.own_ddiv_int (own_rev y z) (Jvm.FP.Core.i2d_int _) (own_cnz h) (by have := own_kb y; omega)
theorem own_quN (y : Int32) {z : Int32} (h : ¬ own_cc z = 0) : Jvm.FP.Core.DInt (-(own_k y).toInt) (FP.ddiv (FP.l2d ((own_k y).toInt64 * (own_cc z).toInt64)) (FP.dneg (FP.i2d (own_cc z)))) := by
  refine Own.own_ddiv_int ?_ (Own.own_dneg_int (Jvm.FP.Core.i2d_int (own_cc z))) (by have := own_cnz h; omega) (by have := own_kb y; omega)
  rw [Int.neg_mul_neg]; exact own_rev y z
theorem own_e0 {x y : UInt64} (h : FP.dcmp x y = some .eq) : cmpValue (FP.dcmp x y) .l = 0 := by rw [h]; rfl
theorem own_n0 {x y : UInt64} (h : FP.dcmp x y = some .lt ∨ FP.dcmp x y = some .gt) : ¬ cmpValue (FP.dcmp x y) .l = 0 := by rcases h with h | h <;> rw [h] <;> decide
theorem own_negk (y : Int32) : Jvm.FP.Core.DInt (-(own_k y).toInt) (FP.i2d (-(own_k y))) := by
  have := Jvm.FP.Core.i2d_int (-(own_k y)); rw [own_neg] at this; exact this
theorem own_cz {z : Int32} (h : own_cc z = 0) : (own_cc z).toInt = 0 := by rw [h]; rfl
theorem own_czn {z : Int32} (h : own_cc z = 0) : -(own_cc z).toInt = 0 := by rw [h]; rfl
theorem own_cnzn {z : Int32} (h : ¬ own_cc z = 0) : ¬ -(own_cc z).toInt = 0 := by have := own_cnz h; omega
theorem d6_0 : decode jdk_2648_method_3_code 0 = .ok (.aload_n 0, 1) := by decide +kernel
theorem d6_1 : decode jdk_2648_method_3_code 1 = .ok (.invokespecial 1, 3) := by decide +kernel
theorem d6_4 : decode jdk_2648_method_3_code 4 = .ok (.aload_n 0, 1) := by decide +kernel
theorem d6_5 : decode jdk_2648_method_3_code 5 = .ok (.iconst 1, 1) := by decide +kernel
theorem d6_6 : decode jdk_2648_method_3_code 6 = .ok (.putfield 7, 3) := by decide +kernel
theorem d6_9 : decode jdk_2648_method_3_code 9 = .ok (.aload_n 0, 1) := by decide +kernel
theorem d6_10 : decode jdk_2648_method_3_code 10 = .ok (.dload_n 1, 1) := by decide +kernel
theorem d6_11 : decode jdk_2648_method_3_code 11 = .ok (.putfield 17, 3) := by decide +kernel
theorem d6_14 : decode jdk_2648_method_3_code 14 = .ok (.return_, 1) := by decide +kernel
theorem pn_OptionalDouble : plainName "java/util/OptionalDouble" = true := by first | (simp [plainName, overriddenIn]; done) | decide +kernel
def QrmOI (Z : State) (a0 : Addr) (d1 : UInt64) (h0 : Heap) (n0 : Nat) (v : Option Value) (h : Heap) (L : List Loc) : Prop := v = none ∧ Fr n0 L ∧ Keep h0 h [a0] ∧ Fld Z h a0 "java/util/OptionalDouble" "isPresent" "Z" (.int (1 : Int32)) ∧ Fld Z h a0 "java/util/OptionalDouble" "value" "D" (.double d1)
set_option maxRecDepth 65536 in
set_option maxHeartbeats 40000000 in
theorem rmOI (l : Launch) (Z : State) (av0 : Array Value) (hw : ∀ d ∈ tables_1, d.before av0 Z = true) (ws : List Jvm.Cond) (a0 : Addr) (d1 : UInt64) (h0 : Heap) (n0 : Nat) (Z0 : n0 ≤ h0.size) (hE : Exa Z h0 a0 "java/util/OptionalDouble") (hI : Fld Z h0 a0 "java/util/OptionalDouble" "isPresent" "Z" (.int (0 : Int32))) (hV : Fld Z h0 a0 "java/util/OptionalDouble" "value" "D" (.double (0 : UInt64))) (hge : n0 ≤ a0) :
    own_Met l mN0 jdk_2648_method_3_code 3 none ws ({ frames := 1, cells := 0, slots := 0, locals := 12 } : Room) #[(.ref a0), (.double d1)] Z h0 (QrmOI Z a0 d1 h0 n0) := by
  refine MetFree.of_bodySF (plainFor_of_name pn_OptionalDouble) hisR ?_
  intro p e s m args below meth c s₁ Bd hml0 hP hK
  obtain ⟨rfl, hZ, hh⟩ := hP
  have hml : c.maxLocals = 3 := hml0
  obtain ⟨hx, hby, hown, hnm, X0, e0⟩ := own_start Bd hml0 hh
  have N0 := Fr.nil n0
  have pre0 : ∀ tz, oS p e below s₁ (mkF m 0 #[rv a0, .val (.double d1), .second] []) tz → Steps p.tables e below (s₁.setTop (entryFrame m #[(.ref a0), (.double d1)] 3)) tz := fun tz kz => castTop (by first | (simp [entryFrame, mkF, argsToLocals, Value.category]; done) | rfl) kz
  obtain ⟨T1, X1, e1, st1⟩ := initO X0 hx hZ hown (hw _ (own_w 46 rfl)) (hw _ (own_w 13 rfl)) (hw _ (own_w 14 rfl)) e0 (g := (mkF m 1 #[rv a0, .val (.double d1), .second] [(.ref a0)])) rfl (by rw [hml]; rfl) rfl (hb hby d6_1) (by decide) (W := 0) (by show 2 * 0 + _ ≤ _; exact Nat.le_of_eq rfl) (by decide)
  obtain ⟨T2, h2, X2, e2, W2, st2⟩ := putFN X1 hx hZ hown (hw _ (own_w 47 rfl)) Via.refl e1 hI hE (Or.inr ⟨(hw _ (own_w 48 rfl)), rfl, hnm⟩) (hw _ (own_w 41 rfl)) (ty := .boolean) (v' := (.int 1)) (by decide) rfl rfl (g := (mkF m 6 #[rv a0, .val (.double d1), .second] [(.int 1), (.ref a0)])) rfl rfl (hb hby d6_6)
  have N2 := Fr.snoc X2 N0 hge
  have Z2 : n0 ≤ h2.size := Nat.le_trans Z0 (Nat.le_of_eq W2.size.symm)
  have K2 : Keep h0 h2 [a0] := (Keep.refl h0 [a0]).wr W2 (Or.inl (List.mem_of_getElem? (i := 0) rfl))
  have Fw2 := hI.same W2
  have f3 := (hV.other W2 (Or.inr (slot_ne (Or.inr (hw _ (own_w 50 rfl))) (Or.inr (hw _ (own_w 48 rfl))) (by decide) (t := .double) (t' := .boolean) (by decide) (by decide))))
  have f4 := (hE.wr W2)
  obtain ⟨T5, h5, X5, e5, W5, st5⟩ := putF X2 hx hZ hown (host := "") (Or.inl (hw _ (own_w 49 rfl))) Via.refl e2 f3 f4 (Or.inr ⟨(hw _ (own_w 50 rfl)), rfl, hnm⟩) (hw _ (own_w 41 rfl)) (ty := .double) (by decide) rfl rfl (g := (mkF m 11 #[rv a0, .val (.double d1), .second] [(.double d1), (.ref a0)])) rfl rfl (hb hby d6_11)
  have N5 := Fr.snoc X5 N2 hge
  have Z5 : n0 ≤ h5.size := Nat.le_trans Z2 (Nat.le_of_eq W5.size.symm)
  have K5 : Keep h0 h5 [a0] := K2.wr W5 (Or.inl (List.mem_of_getElem? (i := 0) rfl))
  have Fw5 := f3.same W5
  have S6 : ∀ tz, oS p e below T5 (mkF m 14 #[rv a0, .val (.double d1), .second] []) tz → oS p e below s₁ (mkF m 0 #[rv a0, .val (.double d1), .second] []) tz := fun tz kz => id (by
    show oS p e below s₁ (mkF m 0 #[rv a0, .val (.double d1), .second] []) _
    refine XS.aloadN X0.here hx rfl (hb hby d6_0) rfl rfl ?_
    refine st1 _ ?_
    refine XS.aloadN X1.here hx rfl (hb hby d6_4) rfl rfl ?_
    refine XT.iconstV X1.here hx rfl (1 : Int32) (hb hby d6_5) (by decide) ?_
    refine st2 _ ?_
    refine XS.aloadN X2.here hx rfl (hb hby d6_9) rfl rfl ?_
    refine XS.dloadN X2.here hx rfl (hb hby d6_10) rfl ?_
    refine st5 _ ?_
    show oS p e below T5 (mkF m 14 #[rv a0, .val (.double d1), .second] []) _
    exact kz)
  obtain ⟨fs, hr, hrun, hended, hW, hsame⟩ := X5.leave (v := none) (fun _ => rfl)
  refine ⟨_, _, pre0 _ (S6 _ ?_), hrun, hended, _, _, rfl, ?_, ⟨_, rfl⟩, hW, hsame.mono (by decide) (by decide)⟩
  · exact X5.returnOut hx Bd.returns (hb hby d6_14) hr
  have f7 := (Fw2.other W5 (Or.inr (slot_ne (Or.inr (hw _ (own_w 48 rfl))) (Or.inr (hw _ (own_w 50 rfl))) (by decide) (t := .boolean) (t' := .double) (by decide) (by decide))))
  · show QrmOI Z a0 d1 h0 n0 _ T5.heap _
    rw [e5]
    exact ⟨rfl, N5, K5, f7, Fw5⟩
theorem d5_0 : decode jdk_2648_method_4_code 0 = .ok (.new 8, 3) := by decide +kernel
theorem d5_3 : decode jdk_2648_method_4_code 3 = .ok (.dup, 1) := by decide +kernel
theorem d5_4 : decode jdk_2648_method_4_code 4 = .ok (.dload_n 0, 1) := by decide +kernel
theorem d5_5 : decode jdk_2648_method_4_code 5 = .ok (.invokespecial 25, 3) := by decide +kernel
theorem d5_8 : decode jdk_2648_method_4_code 8 = .ok (.areturn, 1) := by decide +kernel
theorem pd__D_V : parseMethodDescriptor "(D)V" = some ⟨[.double], none⟩ := by decide +kernel
def QrmOf (Z : State) (d0 : UInt64) (h0 : Heap) (n0 : Nat) (v : Option Value) (h : Heap) (L : List Loc) : Prop := ∃ b : Addr, v = some (.ref b) ∧ Fr n0 L ∧ h0.size ≤ b ∧ Keep h0 h [] ∧ Exa Z h b "java/util/OptionalDouble" ∧ Fld Z h b "java/util/OptionalDouble" "isPresent" "Z" (.int (1 : Int32)) ∧ Fld Z h b "java/util/OptionalDouble" "value" "D" (.double d0)
set_option maxRecDepth 65536 in
set_option maxHeartbeats 40000000 in
theorem rmOf (l : Launch) (Z : State) (av0 : Array Value) (hw : ∀ d ∈ tables_1, d.before av0 Z = true) (ws : List Jvm.Cond) (d0 : UInt64) (h0 : Heap) (n0 : Nat) (Z0 : n0 ≤ h0.size)  :
    own_Met l mN1 jdk_2648_method_4_code 2 (some (.object "java/util/OptionalDouble")) ws ({ frames := 2, cells := 1, slots := 2, locals := 27 } : Room) #[(.double d0)] Z h0 (QrmOf Z d0 h0 n0) := by
  refine MetFree.of_bodySF (plainFor_of_name pn_OptionalDouble) hisR ?_
  intro p e s m args below meth c s₁ Bd hml0 hP hK
  obtain ⟨rfl, hZ, hh⟩ := hP
  have hml : c.maxLocals = 2 := hml0
  obtain ⟨hx, hby, hown, hnm, X0, e0⟩ := own_start Bd hml0 hh
  have N0 := Fr.nil n0
  have pre0 : ∀ tz, oS p e below s₁ (mkF m 0 #[.val (.double d0), .second] []) tz → Steps p.tables e below (s₁.setTop (entryFrame m #[(.double d0)] 2)) tz := fun tz kz => castTop (by first | (simp [entryFrame, mkF, argsToLocals, Value.category]; done) | rfl) kz
  obtain ⟨T1, h1, X1, e1, E1, A1, D1, -, st1⟩ := newO X0 hx hZ hown (hw _ (own_w 40 rfl)) (hw _ (own_w 41 rfl)) (hw _ (own_w 38 rfl)) e0 (g := (mkF m 0 #[.val (.double d0), .second] [])) rfl (hb hby d5_0) (by decide) (by decide)
  obtain ⟨b1, g1⟩ : ∃ z, z = h0.size := ⟨_, rfl⟩
  rw [← g1] at A1 D1 st1
  have ge_b1 : n0 ≤ b1 := Nat.le_trans Z0 (Nat.le_of_eq g1.symm)
  have sz_b1 : h0.size ≤ b1 := Nat.le_of_eq g1.symm
  have Z1 : n0 ≤ h1.size := Nat.le_trans Z0 E1.1
  have K1 : Keep h0 h1 [] := (Keep.refl h0 []).ext E1
  have F1_isPresent : Fld Z h1 b1 "java/util/OptionalDouble" "isPresent" "Z" (.int 0) := D1 (Or.inr (hw _ (own_w 48 rfl))) (ty := .boolean) (by decide)
  have F1_value : Fld Z h1 b1 "java/util/OptionalDouble" "value" "D" (defaultValue .double) := D1 (Or.inr (hw _ (own_w 50 rfl))) (ty := .double) (by decide)
  obtain ⟨_, T2, Lc2, X2, hQ2, st2⟩ := own_special (W := 1) (y := mN0) X1 hx hZ rfl hown (hw _ (own_w 42 rfl)) (hw _ (own_w 43 rfl)) (hw _ (own_w 45 rfl)) (hw _ (own_w 38 rfl)) (by decide) (rmOI l Z av0 hw [] b1 d0 h1 n0 Z1 A1 F1_isPresent F1_value ge_b1) (by decide) (by decide) (g := (mkF m 5 #[.val (.double d0), .second] [(.double d0), (.ref b1), (.ref b1)])) rfl (by rw [hml]; rfl) (a := b1) (argsL := [(.double d0)]) (rest := [(.ref b1)]) (lenOf pd__D_V rfl) rfl (hb hby d5_5) rfl e1 (by decide : 1 + 0 ≤ _) (by decide : 2 + 0 ≤ _)
  obtain ⟨rfl, N2q, K2, I2, V2⟩ := hQ2
  have N2 := Fr.app N0 N2q
  have e2 : T2.heap = T2.heap := rfl
  have Zk2 : n0 ≤ T2.heap.size := Nat.le_trans Z1 K2.1
  have Kk2 : Keep h0 T2.heap [] := K1.trans K2 (allS (Or.inr sz_b1) all0)
  have S3 : ∀ tz, oS p e below T2 (mkF m 8 #[.val (.double d0), .second] [(.ref b1)]) tz → oS p e below s₁ (mkF m 0 #[.val (.double d0), .second] []) tz := fun tz kz => id (by
    show oS p e below s₁ (mkF m 0 #[.val (.double d0), .second] []) _
    refine st1 _ ?_
    refine XS.dup X1.here hx rfl (hb hby d5_3) rfl rfl ?_
    refine XS.dloadN X1.here hx rfl (hb hby d5_4) rfl ?_
    refine st2 _ ?_
    exact kz)
  obtain ⟨fs, hr, hrun, hended, hW, hsame⟩ := X2.leave (v := some (.ref b1)) (fun h => by rw [Bd.returns] at h; cases h)
  refine ⟨_, _, pre0 _ (S3 _ ?_), hrun, hended, _, _, rfl, ?_, ⟨_, rfl⟩, hW, hsame.mono (by decide) (by decide)⟩
  · jvm_step X2.here [X2.here.top, hx, (hb hby d5_8), X2.method', Bd.returns, Value.isRef, FieldType.isReference]
    first | (intro acts; rw [hr _ acts rfl rfl rfl]) | rw [hr _ _ rfl rfl rfl]
    exact Steps.refl _
  have f4 := (A1.keep K2)
  · show QrmOf Z d0 h0 n0 _ T2.heap _
    rw [e2]
    exact ⟨_, rfl, N2, sz_b1, Kk2, f4, I2, V2⟩
theorem d9_0 : decode jdk_2648_method_2_code 0 = .ok (.getstatic 21, 3) := by decide +kernel
theorem d9_3 : decode jdk_2648_method_2_code 3 = .ok (.areturn, 1) := by decide +kernel
def QrmEm (Z : State) (aE : Addr) (h0 : Heap) (n0 : Nat) (v : Option Value) (h : Heap) (L : List Loc) : Prop := v = some (.ref aE) ∧ Fr n0 L ∧ h = h0
set_option maxRecDepth 65536 in
set_option maxHeartbeats 40000000 in
theorem rmEm (l : Launch) (Z : State) (av0 : Array Value) (hw : ∀ d ∈ tables_1, d.before av0 Z = true) (ws : List Jvm.Cond) (aE : Addr) (h0 : Heap) (n0 : Nat) (Z0 : n0 ≤ h0.size) (hS : Sta Z h0 "java/util/OptionalDouble" "EMPTY" "Ljava/util/OptionalDouble;" (.ref aE)) :
    own_Met l mN2 jdk_2648_method_2_code 0 (some (.object "java/util/OptionalDouble")) ws ({ frames := 0, cells := 0, slots := 0, locals := 0 } : Room) #[] Z h0 (QrmEm Z aE h0 n0) := by
  refine MetFree.of_bodySF (plainFor_of_name pn_OptionalDouble) hisR ?_
  intro p e s m args below meth c s₁ Bd hml0 hP hK
  obtain ⟨rfl, hZ, hh⟩ := hP
  have hml : c.maxLocals = 0 := hml0
  obtain ⟨hx, hby, hown, hnm, X0, e0⟩ := own_start Bd hml0 hh
  have N0 := Fr.nil n0
  have pre0 : ∀ tz, oS p e below s₁ (mkF m 0 #[] []) tz → Steps p.tables e below (s₁.setTop (entryFrame m #[] 0)) tz := fun tz kz => castTop (by first | (simp [entryFrame, mkF, argsToLocals, Value.category]; done) | rfl) kz
  obtain ⟨T1, X1, e1, st1⟩ := getS2 X0 hx hZ hown (host := "") (Or.inl (hw _ (own_w 64 rfl))) Via.refl e0 hS (g := (mkF m 0 #[] [])) rfl (hb hby d9_0)
  have S2 : ∀ tz, oS p e below T1 (mkF m 3 #[] [(.ref aE)]) tz → oS p e below s₁ (mkF m 0 #[] []) tz := fun tz kz => id (by
    show oS p e below s₁ (mkF m 0 #[] []) _
    refine st1 _ ?_
    exact kz)
  obtain ⟨fs, hr, hrun, hended, hW, hsame⟩ := X1.leave (v := some (.ref aE)) (fun h => by rw [Bd.returns] at h; cases h)
  refine ⟨_, _, pre0 _ (S2 _ ?_), hrun, hended, _, _, rfl, ?_, ⟨_, rfl⟩, hW, hsame.mono (by decide) (by decide)⟩
  · jvm_step X1.here [X1.here.top, hx, (hb hby d9_3), X1.method', Bd.returns, Value.isRef, FieldType.isReference]
    first | (intro acts; rw [hr _ acts rfl rfl rfl]) | rw [hr _ _ rfl rfl rfl]
    exact Steps.refl _
  · show QrmEm Z aE h0 n0 _ T1.heap _
    rw [e1]
    exact ⟨rfl, N0, rfl⟩
theorem d7_0 : decode jdk_2648_method_6_code 0 = .ok (.aload_n 0, 1) := by decide +kernel
theorem d7_1 : decode jdk_2648_method_6_code 1 = .ok (.getfield 7, 3) := by decide +kernel
theorem d7_4 : decode jdk_2648_method_6_code 4 = .ok (.ireturn, 1) := by decide +kernel
def QrmIs0 (Z : State) (a0 : Addr) (h0 : Heap) (n0 : Nat) (v : Option Value) (h : Heap) (L : List Loc) : Prop := v = some (.int (0 : Int32)) ∧ Fr n0 L ∧ h = h0
set_option maxRecDepth 65536 in
set_option maxHeartbeats 40000000 in
theorem rmIs0 (l : Launch) (Z : State) (av0 : Array Value) (hw : ∀ d ∈ tables_1, d.before av0 Z = true) (ws : List Jvm.Cond) (a0 : Addr) (h0 : Heap) (n0 : Nat) (Z0 : n0 ≤ h0.size) (hI : Fld Z h0 a0 "java/util/OptionalDouble" "isPresent" "Z" (.int (0 : Int32))) :
    own_Met l mN3 jdk_2648_method_6_code 1 (some .boolean) ws ({ frames := 0, cells := 0, slots := 0, locals := 0 } : Room) #[(.ref a0)] Z h0 (QrmIs0 Z a0 h0 n0) := by
  refine MetFree.of_bodySF (plainFor_of_name pn_OptionalDouble) hisR ?_
  intro p e s m args below meth c s₁ Bd hml0 hP hK
  obtain ⟨rfl, hZ, hh⟩ := hP
  have hml : c.maxLocals = 1 := hml0
  obtain ⟨hx, hby, hown, hnm, X0, e0⟩ := own_start Bd hml0 hh
  have N0 := Fr.nil n0
  have pre0 : ∀ tz, oS p e below s₁ (mkF m 0 #[rv a0] []) tz → Steps p.tables e below (s₁.setTop (entryFrame m #[(.ref a0)] 1)) tz := fun tz kz => castTop (by first | (simp [entryFrame, mkF, argsToLocals, Value.category]; done) | rfl) kz
  obtain ⟨T1, X1, e1, st1⟩ := getF X0 hx hZ hown (host := "") (Or.inl (hw _ (own_w 47 rfl))) Via.refl e0 hI (g := (mkF m 1 #[rv a0] [(.ref a0)])) rfl rfl (hb hby d7_1)
  have S2 : ∀ tz, oS p e below T1 (mkF m 4 #[rv a0] [(.int 0)]) tz → oS p e below s₁ (mkF m 0 #[rv a0] []) tz := fun tz kz => id (by
    show oS p e below s₁ (mkF m 0 #[rv a0] []) _
    refine XS.aloadN X0.here hx rfl (hb hby d7_0) rfl rfl ?_
    refine st1 _ ?_
    exact kz)
  obtain ⟨fs, hr, hrun, hended, hW, hsame⟩ := X1.leave (v := some (.int 0)) (fun h => by rw [Bd.returns] at h; cases h)
  refine ⟨_, _, pre0 _ (S2 _ ?_), hrun, hended, _, _, rfl, ?_, ⟨_, rfl⟩, hW, hsame.mono (by decide) (by decide)⟩
  · exact retN X1 hx (t := .boolean) Bd.returns (by simp) (hb hby d7_4) hr
  · show QrmIs0 Z a0 h0 n0 _ T1.heap _
    rw [e1]
    exact ⟨rfl, N0, rfl⟩
def QrmIs1 (Z : State) (a0 : Addr) (h0 : Heap) (n0 : Nat) (v : Option Value) (h : Heap) (L : List Loc) : Prop := v = some (.int (1 : Int32)) ∧ Fr n0 L ∧ h = h0
set_option maxRecDepth 65536 in
set_option maxHeartbeats 40000000 in
theorem rmIs1 (l : Launch) (Z : State) (av0 : Array Value) (hw : ∀ d ∈ tables_1, d.before av0 Z = true) (ws : List Jvm.Cond) (a0 : Addr) (h0 : Heap) (n0 : Nat) (Z0 : n0 ≤ h0.size) (hI : Fld Z h0 a0 "java/util/OptionalDouble" "isPresent" "Z" (.int (1 : Int32))) :
    own_Met l mN3 jdk_2648_method_6_code 1 (some .boolean) ws ({ frames := 0, cells := 0, slots := 0, locals := 0 } : Room) #[(.ref a0)] Z h0 (QrmIs1 Z a0 h0 n0) := by
  refine MetFree.of_bodySF (plainFor_of_name pn_OptionalDouble) hisR ?_
  intro p e s m args below meth c s₁ Bd hml0 hP hK
  obtain ⟨rfl, hZ, hh⟩ := hP
  have hml : c.maxLocals = 1 := hml0
  obtain ⟨hx, hby, hown, hnm, X0, e0⟩ := own_start Bd hml0 hh
  have N0 := Fr.nil n0
  have pre0 : ∀ tz, oS p e below s₁ (mkF m 0 #[rv a0] []) tz → Steps p.tables e below (s₁.setTop (entryFrame m #[(.ref a0)] 1)) tz := fun tz kz => castTop (by first | (simp [entryFrame, mkF, argsToLocals, Value.category]; done) | rfl) kz
  obtain ⟨T1, X1, e1, st1⟩ := getF X0 hx hZ hown (host := "") (Or.inl (hw _ (own_w 47 rfl))) Via.refl e0 hI (g := (mkF m 1 #[rv a0] [(.ref a0)])) rfl rfl (hb hby d7_1)
  have S2 : ∀ tz, oS p e below T1 (mkF m 4 #[rv a0] [(.int 1)]) tz → oS p e below s₁ (mkF m 0 #[rv a0] []) tz := fun tz kz => id (by
    show oS p e below s₁ (mkF m 0 #[rv a0] []) _
    refine XS.aloadN X0.here hx rfl (hb hby d7_0) rfl rfl ?_
    refine st1 _ ?_
    exact kz)
  obtain ⟨fs, hr, hrun, hended, hW, hsame⟩ := X1.leave (v := some (.int 1)) (fun h => by rw [Bd.returns] at h; cases h)
  refine ⟨_, _, pre0 _ (S2 _ ?_), hrun, hended, _, _, rfl, ?_, ⟨_, rfl⟩, hW, hsame.mono (by decide) (by decide)⟩
  · exact retN X1 hx (t := .boolean) Bd.returns (by simp) (hb hby d7_4) hr
  · show QrmIs1 Z a0 h0 n0 _ T1.heap _
    rw [e1]
    exact ⟨rfl, N0, rfl⟩
theorem d8_0 : decode jdk_2648_method_5_code 0 = .ok (.aload_n 0, 1) := by decide +kernel
theorem d8_1 : decode jdk_2648_method_5_code 1 = .ok (.getfield 7, 3) := by decide +kernel
theorem d8_4 : decode jdk_2648_method_5_code 4 = .ok (.ifCond .ne 13, 3) := by decide +kernel
theorem d8_17 : decode jdk_2648_method_5_code 17 = .ok (.aload_n 0, 1) := by decide +kernel
theorem d8_18 : decode jdk_2648_method_5_code 18 = .ok (.getfield 17, 3) := by decide +kernel
theorem d8_21 : decode jdk_2648_method_5_code 21 = .ok (.dreturn, 1) := by decide +kernel
def QrmGet (Z : State) (a0 : Addr) (dv : UInt64) (h0 : Heap) (n0 : Nat) (v : Option Value) (h : Heap) (L : List Loc) : Prop := v = some (.double dv) ∧ Fr n0 L ∧ h = h0
set_option maxRecDepth 65536 in
set_option maxHeartbeats 40000000 in
theorem rmGet (l : Launch) (Z : State) (av0 : Array Value) (hw : ∀ d ∈ tables_1, d.before av0 Z = true) (ws : List Jvm.Cond) (a0 : Addr) (dv : UInt64) (h0 : Heap) (n0 : Nat) (Z0 : n0 ≤ h0.size) (hI : Fld Z h0 a0 "java/util/OptionalDouble" "isPresent" "Z" (.int (1 : Int32))) (hV : Fld Z h0 a0 "java/util/OptionalDouble" "value" "D" (.double dv)) :
    own_Met l mN4 jdk_2648_method_5_code 1 (some .double) ws ({ frames := 0, cells := 0, slots := 0, locals := 0 } : Room) #[(.ref a0)] Z h0 (QrmGet Z a0 dv h0 n0) := by
  refine MetFree.of_bodySF (plainFor_of_name pn_OptionalDouble) hisR ?_
  intro p e s m args below meth c s₁ Bd hml0 hP hK
  obtain ⟨rfl, hZ, hh⟩ := hP
  have hml : c.maxLocals = 1 := hml0
  obtain ⟨hx, hby, hown, hnm, X0, e0⟩ := own_start Bd hml0 hh
  have N0 := Fr.nil n0
  have pre0 : ∀ tz, oS p e below s₁ (mkF m 0 #[rv a0] []) tz → Steps p.tables e below (s₁.setTop (entryFrame m #[(.ref a0)] 1)) tz := fun tz kz => castTop (by first | (simp [entryFrame, mkF, argsToLocals, Value.category]; done) | rfl) kz
  obtain ⟨T1, X1, e1, st1⟩ := getF X0 hx hZ hown (host := "") (Or.inl (hw _ (own_w 47 rfl))) Via.refl e0 hI (g := (mkF m 1 #[rv a0] [(.ref a0)])) rfl rfl (hb hby d8_1)
  obtain ⟨T2, X2, e2, st2⟩ := getF X1 hx hZ hown (host := "") (Or.inl (hw _ (own_w 49 rfl))) Via.refl e1 hV (g := (mkF m 18 #[rv a0] [(.ref a0)])) rfl rfl (hb hby d8_18)
  have S3 : ∀ tz, oS p e below T2 (mkF m 21 #[rv a0] [(.double dv)]) tz → oS p e below s₁ (mkF m 0 #[rv a0] []) tz := fun tz kz => id (by
    show oS p e below s₁ (mkF m 0 #[rv a0] []) _
    refine XS.aloadN X0.here hx rfl (hb hby d8_0) rfl rfl ?_
    refine st1 _ ?_
    refine XS.ifYes X1.here hx rfl (pc0 := 4) (pc' := 17) rfl (hb hby d8_4) rfl (XT.i0_ne_t (by decide)) (by decide) (by decide) ?_
    refine XS.aloadN X1.here hx rfl (hb hby d8_17) rfl rfl ?_
    refine st2 _ ?_
    exact kz)
  obtain ⟨fs, hr, hrun, hended, hW, hsame⟩ := X2.leave (v := some (.double dv)) (fun h => by rw [Bd.returns] at h; cases h)
  refine ⟨_, _, pre0 _ (S3 _ ?_), hrun, hended, _, _, rfl, ?_, ⟨_, rfl⟩, hW, hsame.mono (by decide) (by decide)⟩
  · jvm_step X2.here [X2.here.top, hx, (hb hby d8_21), X2.method', Bd.returns, narrow]
    first | (intro acts; rw [hr _ acts rfl rfl rfl]) | (refine ⟨meth, X2.method', ⟨_, Bd.returns, rfl⟩, fun acts => ?_⟩; rw [hr _ acts rfl rfl rfl])
    exact Steps.refl _
  · show QrmGet Z a0 dv h0 n0 _ T2.heap _
    rw [e2]
    exact ⟨rfl, N0, rfl⟩
theorem d2_0 : decode jdk_30_method_1_code 0 = .ok (.aload_n 0, 1) := by decide +kernel
theorem d2_1 : decode jdk_30_method_1_code 1 = .ok (.invokespecial 1, 3) := by decide +kernel
theorem d2_4 : decode jdk_30_method_1_code 4 = .ok (.return_, 1) := by decide +kernel
theorem pn_Record : plainName "java/lang/Record" = true := by first | (simp [plainName, overriddenIn]; done) | decide +kernel
def QrmRec (Z : State) (a0 : Addr) (h0 : Heap) (n0 : Nat) (v : Option Value) (h : Heap) (L : List Loc) : Prop := v = none ∧ Fr n0 L ∧ h = h0
set_option maxRecDepth 65536 in
set_option maxHeartbeats 40000000 in
theorem rmRec (l : Launch) (Z : State) (av0 : Array Value) (hw : ∀ d ∈ tables_1, d.before av0 Z = true) (ws : List Jvm.Cond) (a0 : Addr) (h0 : Heap) (n0 : Nat) (Z0 : n0 ≤ h0.size)  :
    own_Met l mN5 jdk_30_method_1_code 1 none ws ({ frames := 1, cells := 0, slots := 0, locals := 12 } : Room) #[(.ref a0)] Z h0 (QrmRec Z a0 h0 n0) := by
  refine MetFree.of_bodySF (plainFor_of_name pn_Record) hisR ?_
  intro p e s m args below meth c s₁ Bd hml0 hP hK
  obtain ⟨rfl, hZ, hh⟩ := hP
  have hml : c.maxLocals = 1 := hml0
  obtain ⟨hx, hby, hown, hnm, X0, e0⟩ := own_start Bd hml0 hh
  have N0 := Fr.nil n0
  have pre0 : ∀ tz, oS p e below s₁ (mkF m 0 #[rv a0] []) tz → Steps p.tables e below (s₁.setTop (entryFrame m #[(.ref a0)] 1)) tz := fun tz kz => castTop (by first | (simp [entryFrame, mkF, argsToLocals, Value.category]; done) | rfl) kz
  obtain ⟨T1, X1, e1, st1⟩ := initO X0 hx hZ hown (hw _ (own_w 12 rfl)) (hw _ (own_w 13 rfl)) (hw _ (own_w 14 rfl)) e0 (g := (mkF m 1 #[rv a0] [(.ref a0)])) rfl (by rw [hml]; rfl) rfl (hb hby d2_1) (by decide) (W := 0) (by show 2 * 0 + _ ≤ _; exact Nat.le_of_eq rfl) (by decide)
  have S2 : ∀ tz, oS p e below T1 (mkF m 4 #[rv a0] []) tz → oS p e below s₁ (mkF m 0 #[rv a0] []) tz := fun tz kz => id (by
    show oS p e below s₁ (mkF m 0 #[rv a0] []) _
    refine XS.aloadN X0.here hx rfl (hb hby d2_0) rfl rfl ?_
    refine st1 _ ?_
    exact kz)
  obtain ⟨fs, hr, hrun, hended, hW, hsame⟩ := X1.leave (v := none) (fun _ => rfl)
  refine ⟨_, _, pre0 _ (S2 _ ?_), hrun, hended, _, _, rfl, ?_, ⟨_, rfl⟩, hW, hsame.mono (by decide) (by decide)⟩
  · exact X1.returnOut hx Bd.returns (hb hby d2_4) hr
  · show QrmRec Z a0 h0 n0 _ T1.heap _
    rw [e1]
    exact ⟨rfl, N0, rfl⟩
theorem d1_0 : decode prog_53_method_1_code 0 = .ok (.aload_n 0, 1) := by decide +kernel
theorem d1_1 : decode prog_53_method_1_code 1 = .ok (.invokespecial 1, 3) := by decide +kernel
theorem d1_4 : decode prog_53_method_1_code 4 = .ok (.aload_n 0, 1) := by decide +kernel
theorem d1_5 : decode prog_53_method_1_code 5 = .ok (.dload_n 1, 1) := by decide +kernel
theorem d1_6 : decode prog_53_method_1_code 6 = .ok (.putfield 7, 3) := by decide +kernel
theorem d1_9 : decode prog_53_method_1_code 9 = .ok (.aload_n 0, 1) := by decide +kernel
theorem d1_10 : decode prog_53_method_1_code 10 = .ok (.iload_n 3, 1) := by decide +kernel
theorem d1_11 : decode prog_53_method_1_code 11 = .ok (.putfield 13, 3) := by decide +kernel
theorem d1_14 : decode prog_53_method_1_code 14 = .ok (.aload_n 0, 1) := by decide +kernel
theorem d1_15 : decode prog_53_method_1_code 15 = .ok (.iload 4, 2) := by decide +kernel
theorem d1_17 : decode prog_53_method_1_code 17 = .ok (.putfield 17, 3) := by decide +kernel
theorem d1_20 : decode prog_53_method_1_code 20 = .ok (.aload_n 0, 1) := by decide +kernel
theorem d1_21 : decode prog_53_method_1_code 21 = .ok (.dload 5, 2) := by decide +kernel
theorem d1_23 : decode prog_53_method_1_code 23 = .ok (.putfield 20, 3) := by decide +kernel
theorem d1_26 : decode prog_53_method_1_code 26 = .ok (.aload_n 0, 1) := by decide +kernel
theorem d1_27 : decode prog_53_method_1_code 27 = .ok (.dload 7, 2) := by decide +kernel
theorem d1_29 : decode prog_53_method_1_code 29 = .ok (.putfield 23, 3) := by decide +kernel
theorem d1_32 : decode prog_53_method_1_code 32 = .ok (.aload_n 0, 1) := by decide +kernel
theorem d1_33 : decode prog_53_method_1_code 33 = .ok (.iload 9, 2) := by decide +kernel
theorem d1_35 : decode prog_53_method_1_code 35 = .ok (.putfield 26, 3) := by decide +kernel
theorem d1_38 : decode prog_53_method_1_code 38 = .ok (.aload_n 0, 1) := by decide +kernel
theorem d1_39 : decode prog_53_method_1_code 39 = .ok (.dload 10, 2) := by decide +kernel
theorem d1_41 : decode prog_53_method_1_code 41 = .ok (.putfield 29, 3) := by decide +kernel
theorem d1_44 : decode prog_53_method_1_code 44 = .ok (.aload_n 0, 1) := by decide +kernel
theorem d1_45 : decode prog_53_method_1_code 45 = .ok (.dload 12, 2) := by decide +kernel
theorem d1_47 : decode prog_53_method_1_code 47 = .ok (.putfield 32, 3) := by decide +kernel
theorem d1_50 : decode prog_53_method_1_code 50 = .ok (.return_, 1) := by decide +kernel
theorem pn_Summary : plainName "com/example/graftwork/graftwork/simulate/Summary" = true := by first | (simp [plainName, overriddenIn]; done) | decide +kernel
theorem pd__V : parseMethodDescriptor "()V" = some ⟨[], none⟩ := by decide +kernel
def QrmSI (Z : State) (a0 : Addr) (d1 : UInt64) (p2 : Int32) (p3 : Int32) (d4 : UInt64) (d5 : UInt64) (p6 : Int32) (d7 : UInt64) (d8 : UInt64) (h0 : Heap) (n0 : Nat) (v : Option Value) (h : Heap) (L : List Loc) : Prop := v = none ∧ Fr n0 L ∧ Keep h0 h [a0] ∧ Fld Z h a0 "com/example/graftwork/graftwork/simulate/Summary" "revenue" "D" (.double d4) ∧ Fld Z h a0 "com/example/graftwork/graftwork/simulate/Summary" "cost" "D" (.double d5)
set_option maxRecDepth 65536 in
set_option maxHeartbeats 40000000 in
theorem rmSI (l : Launch) (Z : State) (av0 : Array Value) (hw : ∀ d ∈ tables_1, d.before av0 Z = true) (ws : List Jvm.Cond) (a0 : Addr) (d1 : UInt64) (p2 : Int32) (p3 : Int32) (d4 : UInt64) (d5 : UInt64) (p6 : Int32) (d7 : UInt64) (d8 : UInt64) (h0 : Heap) (n0 : Nat) (Z0 : n0 ≤ h0.size) (hE : Exa Z h0 a0 "com/example/graftwork/graftwork/simulate/Summary") (hge : n0 ≤ a0) (hF_until : Fld Z h0 a0 "com/example/graftwork/graftwork/simulate/Summary" "until" "D" (.double (0 : UInt64))) (hF_arrivals : Fld Z h0 a0 "com/example/graftwork/graftwork/simulate/Summary" "arrivals" "I" (.int (0 : Int32))) (hF_accepted : Fld Z h0 a0 "com/example/graftwork/graftwork/simulate/Summary" "accepted" "I" (.int (0 : Int32))) (hF_revenue : Fld Z h0 a0 "com/example/graftwork/graftwork/simulate/Summary" "revenue" "D" (.double (0 : UInt64))) (hF_cost : Fld Z h0 a0 "com/example/graftwork/graftwork/simulate/Summary" "cost" "D" (.double (0 : UInt64))) (hF_inService : Fld Z h0 a0 "com/example/graftwork/graftwork/simulate/Summary" "inService" "I" (.int (0 : Int32))) (hF_residualCpu : Fld Z h0 a0 "com/example/graftwork/graftwork/simulate/Summary" "residualCpu" "D" (.double (0 : UInt64))) (hF_residualBandwidth : Fld Z h0 a0 "com/example/graftwork/graftwork/simulate/Summary" "residualBandwidth" "D" (.double (0 : UInt64))) :
    own_Met l mN6 prog_53_method_1_code 14 none ws ({ frames := 2, cells := 0, slots := 0, locals := 24 } : Room) #[(.ref a0), (.double d1), (.int p2), (.int p3), (.double d4), (.double d5), (.int p6), (.double d7), (.double d8)] Z h0 (QrmSI Z a0 d1 p2 p3 d4 d5 p6 d7 d8 h0 n0) := by
  refine MetFree.of_bodySF (plainFor_of_name pn_Summary) hisR ?_
  intro p e s m args below meth c s₁ Bd hml0 hP hK
  obtain ⟨rfl, hZ, hh⟩ := hP
  have hml : c.maxLocals = 14 := hml0
  obtain ⟨hx, hby, hown, hnm, X0, e0⟩ := own_start Bd hml0 hh
  have N0 := Fr.nil n0
  have pre0 : ∀ tz, oS p e below s₁ (mkF m 0 #[rv a0, .val (.double d1), .second, iv p2, iv p3, .val (.double d4), .second, .val (.double d5), .second, iv p6, .val (.double d7), .second, .val (.double d8), .second] []) tz → Steps p.tables e below (s₁.setTop (entryFrame m #[(.ref a0), (.double d1), (.int p2), (.int p3), (.double d4), (.double d5), (.int p6), (.double d7), (.double d8)] 14)) tz := fun tz kz => castTop (by first | (simp [entryFrame, mkF, argsToLocals, Value.category]; done) | rfl) kz
  obtain ⟨_, T1, Lc1, X1, hQ1, st1⟩ := own_special (W := 0) (y := mN5) X0 hx hZ rfl hown (hw _ (own_w 7 rfl)) (hw _ (own_w 8 rfl)) (hw _ (own_w 11 rfl)) (hw _ (own_w 10 rfl)) (by decide) (rmRec l Z av0 hw [] a0 h0 n0 Z0 ) (by decide) (by decide) (g := (mkF m 1 #[rv a0, .val (.double d1), .second, iv p2, iv p3, .val (.double d4), .second, .val (.double d5), .second, iv p6, .val (.double d7), .second, .val (.double d8), .second] [(.ref a0)])) rfl (by rw [hml]; rfl) (a := a0) (argsL := []) (rest := []) (lenOf pd__V rfl) rfl (hb hby d1_1) rfl e0 (by decide : 0 + 0 ≤ _) (by decide : 0 + 0 ≤ _)
  obtain ⟨rfl, N1q, hh1⟩ := hQ1
  have N1 := Fr.app N0 N1q
  have e1 : T1.heap = h0 := hh1
  obtain ⟨T2, h2, X2, e2, W2, st2⟩ := putF X1 hx hZ hown (host := "") (Or.inl (hw _ (own_w 15 rfl))) Via.refl e1 hF_until hE (Or.inr ⟨(hw _ (own_w 16 rfl)), rfl, hnm⟩) (hw _ (own_w 2 rfl)) (ty := .double) (by decide) rfl rfl (g := (mkF m 6 #[rv a0, .val (.double d1), .second, iv p2, iv p3, .val (.double d4), .second, .val (.double d5), .second, iv p6, .val (.double d7), .second, .val (.double d8), .second] [(.double d1), (.ref a0)])) rfl rfl (hb hby d1_6)
  have N2 := Fr.snoc X2 N1 hge
  have Z2 : n0 ≤ h2.size := Nat.le_trans Z0 (Nat.le_of_eq W2.size.symm)
  have K2 : Keep h0 h2 [a0] := (Keep.refl h0 [a0]).wr W2 (Or.inl (List.mem_of_getElem? (i := 0) rfl))
  have Fw2 := hF_until.same W2
  have f3 := (hF_arrivals.other W2 (Or.inr (slot_ne (Or.inr (hw _ (own_w 18 rfl))) (Or.inr (hw _ (own_w 16 rfl))) (by decide) (t := .int) (t' := .double) (by decide) (by decide))))
  have f4 := (hE.wr W2)
  obtain ⟨T5, h5, X5, e5, W5, st5⟩ := putF X2 hx hZ hown (host := "") (Or.inl (hw _ (own_w 17 rfl))) Via.refl e2 f3 f4 (Or.inr ⟨(hw _ (own_w 18 rfl)), rfl, hnm⟩) (hw _ (own_w 2 rfl)) (ty := .int) (by decide) rfl rfl (g := (mkF m 11 #[rv a0, .val (.double d1), .second, iv p2, iv p3, .val (.double d4), .second, .val (.double d5), .second, iv p6, .val (.double d7), .second, .val (.double d8), .second] [(.int p2), (.ref a0)])) rfl rfl (hb hby d1_11)
  have N5 := Fr.snoc X5 N2 hge
  have Z5 : n0 ≤ h5.size := Nat.le_trans Z2 (Nat.le_of_eq W5.size.symm)
  have K5 : Keep h0 h5 [a0] := K2.wr W5 (Or.inl (List.mem_of_getElem? (i := 0) rfl))
  have Fw5 := f3.same W5
  have f6 := ((hF_accepted.other W2 (Or.inr (slot_ne (Or.inr (hw _ (own_w 20 rfl))) (Or.inr (hw _ (own_w 16 rfl))) (by decide) (t := .int) (t' := .double) (by decide) (by decide)))).other W5 (Or.inr (slot_ne (Or.inr (hw _ (own_w 20 rfl))) (Or.inr (hw _ (own_w 18 rfl))) (by decide) (t := .int) (t' := .int) (by decide) (by decide))))
  have f7 := (f4.wr W5)
  obtain ⟨T8, h8, X8, e8, W8, st8⟩ := putF X5 hx hZ hown (host := "") (Or.inl (hw _ (own_w 19 rfl))) Via.refl e5 f6 f7 (Or.inr ⟨(hw _ (own_w 20 rfl)), rfl, hnm⟩) (hw _ (own_w 2 rfl)) (ty := .int) (by decide) rfl rfl (g := (mkF m 17 #[rv a0, .val (.double d1), .second, iv p2, iv p3, .val (.double d4), .second, .val (.double d5), .second, iv p6, .val (.double d7), .second, .val (.double d8), .second] [(.int p3), (.ref a0)])) rfl rfl (hb hby d1_17)
  have N8 := Fr.snoc X8 N5 hge
  have Z8 : n0 ≤ h8.size := Nat.le_trans Z5 (Nat.le_of_eq W8.size.symm)
  have K8 : Keep h0 h8 [a0] := K5.wr W8 (Or.inl (List.mem_of_getElem? (i := 0) rfl))
  have Fw8 := f6.same W8
  have f9 := (((hF_revenue.other W2 (Or.inr (slot_ne (Or.inr (hw _ (own_w 22 rfl))) (Or.inr (hw _ (own_w 16 rfl))) (by decide) (t := .double) (t' := .double) (by decide) (by decide)))).other W5 (Or.inr (slot_ne (Or.inr (hw _ (own_w 22 rfl))) (Or.inr (hw _ (own_w 18 rfl))) (by decide) (t := .double) (t' := .int) (by decide) (by decide)))).other W8 (Or.inr (slot_ne (Or.inr (hw _ (own_w 22 rfl))) (Or.inr (hw _ (own_w 20 rfl))) (by decide) (t := .double) (t' := .int) (by decide) (by decide))))
  have f10 := (f7.wr W8)
  obtain ⟨T11, h11, X11, e11, W11, st11⟩ := putF X8 hx hZ hown (host := "") (Or.inl (hw _ (own_w 21 rfl))) Via.refl e8 f9 f10 (Or.inr ⟨(hw _ (own_w 22 rfl)), rfl, hnm⟩) (hw _ (own_w 2 rfl)) (ty := .double) (by decide) rfl rfl (g := (mkF m 23 #[rv a0, .val (.double d1), .second, iv p2, iv p3, .val (.double d4), .second, .val (.double d5), .second, iv p6, .val (.double d7), .second, .val (.double d8), .second] [(.double d4), (.ref a0)])) rfl rfl (hb hby d1_23)
  have N11 := Fr.snoc X11 N8 hge
  have Z11 : n0 ≤ h11.size := Nat.le_trans Z8 (Nat.le_of_eq W11.size.symm)
  have K11 : Keep h0 h11 [a0] := K8.wr W11 (Or.inl (List.mem_of_getElem? (i := 0) rfl))
  have Fw11 := f9.same W11
  have f12 := ((((hF_cost.other W2 (Or.inr (slot_ne (Or.inr (hw _ (own_w 24 rfl))) (Or.inr (hw _ (own_w 16 rfl))) (by decide) (t := .double) (t' := .double) (by decide) (by decide)))).other W5 (Or.inr (slot_ne (Or.inr (hw _ (own_w 24 rfl))) (Or.inr (hw _ (own_w 18 rfl))) (by decide) (t := .double) (t' := .int) (by decide) (by decide)))).other W8 (Or.inr (slot_ne (Or.inr (hw _ (own_w 24 rfl))) (Or.inr (hw _ (own_w 20 rfl))) (by decide) (t := .double) (t' := .int) (by decide) (by decide)))).other W11 (Or.inr (slot_ne (Or.inr (hw _ (own_w 24 rfl))) (Or.inr (hw _ (own_w 22 rfl))) (by decide) (t := .double) (t' := .double) (by decide) (by decide))))
  have f13 := (f10.wr W11)
  obtain ⟨T14, h14, X14, e14, W14, st14⟩ := putF X11 hx hZ hown (host := "") (Or.inl (hw _ (own_w 23 rfl))) Via.refl e11 f12 f13 (Or.inr ⟨(hw _ (own_w 24 rfl)), rfl, hnm⟩) (hw _ (own_w 2 rfl)) (ty := .double) (by decide) rfl rfl (g := (mkF m 29 #[rv a0, .val (.double d1), .second, iv p2, iv p3, .val (.double d4), .second, .val (.double d5), .second, iv p6, .val (.double d7), .second, .val (.double d8), .second] [(.double d5), (.ref a0)])) rfl rfl (hb hby d1_29)
  have N14 := Fr.snoc X14 N11 hge
  have Z14 : n0 ≤ h14.size := Nat.le_trans Z11 (Nat.le_of_eq W14.size.symm)
  have K14 : Keep h0 h14 [a0] := K11.wr W14 (Or.inl (List.mem_of_getElem? (i := 0) rfl))
  have Fw14 := f12.same W14
  have f15 := (((((hF_inService.other W2 (Or.inr (slot_ne (Or.inr (hw _ (own_w 26 rfl))) (Or.inr (hw _ (own_w 16 rfl))) (by decide) (t := .int) (t' := .double) (by decide) (by decide)))).other W5 (Or.inr (slot_ne (Or.inr (hw _ (own_w 26 rfl))) (Or.inr (hw _ (own_w 18 rfl))) (by decide) (t := .int) (t' := .int) (by decide) (by decide)))).other W8 (Or.inr (slot_ne (Or.inr (hw _ (own_w 26 rfl))) (Or.inr (hw _ (own_w 20 rfl))) (by decide) (t := .int) (t' := .int) (by decide) (by decide)))).other W11 (Or.inr (slot_ne (Or.inr (hw _ (own_w 26 rfl))) (Or.inr (hw _ (own_w 22 rfl))) (by decide) (t := .int) (t' := .double) (by decide) (by decide)))).other W14 (Or.inr (slot_ne (Or.inr (hw _ (own_w 26 rfl))) (Or.inr (hw _ (own_w 24 rfl))) (by decide) (t := .int) (t' := .double) (by decide) (by decide))))
  have f16 := (f13.wr W14)
  obtain ⟨T17, h17, X17, e17, W17, st17⟩ := putF X14 hx hZ hown (host := "") (Or.inl (hw _ (own_w 25 rfl))) Via.refl e14 f15 f16 (Or.inr ⟨(hw _ (own_w 26 rfl)), rfl, hnm⟩) (hw _ (own_w 2 rfl)) (ty := .int) (by decide) rfl rfl (g := (mkF m 35 #[rv a0, .val (.double d1), .second, iv p2, iv p3, .val (.double d4), .second, .val (.double d5), .second, iv p6, .val (.double d7), .second, .val (.double d8), .second] [(.int p6), (.ref a0)])) rfl rfl (hb hby d1_35)
  have N17 := Fr.snoc X17 N14 hge
  have Z17 : n0 ≤ h17.size := Nat.le_trans Z14 (Nat.le_of_eq W17.size.symm)
  have K17 : Keep h0 h17 [a0] := K14.wr W17 (Or.inl (List.mem_of_getElem? (i := 0) rfl))
  have Fw17 := f15.same W17
  have f18 := ((((((hF_residualCpu.other W2 (Or.inr (slot_ne (Or.inr (hw _ (own_w 28 rfl))) (Or.inr (hw _ (own_w 16 rfl))) (by decide) (t := .double) (t' := .double) (by decide) (by decide)))).other W5 (Or.inr (slot_ne (Or.inr (hw _ (own_w 28 rfl))) (Or.inr (hw _ (own_w 18 rfl))) (by decide) (t := .double) (t' := .int) (by decide) (by decide)))).other W8 (Or.inr (slot_ne (Or.inr (hw _ (own_w 28 rfl))) (Or.inr (hw _ (own_w 20 rfl))) (by decide) (t := .double) (t' := .int) (by decide) (by decide)))).other W11 (Or.inr (slot_ne (Or.inr (hw _ (own_w 28 rfl))) (Or.inr (hw _ (own_w 22 rfl))) (by decide) (t := .double) (t' := .double) (by decide) (by decide)))).other W14 (Or.inr (slot_ne (Or.inr (hw _ (own_w 28 rfl))) (Or.inr (hw _ (own_w 24 rfl))) (by decide) (t := .double) (t' := .double) (by decide) (by decide)))).other W17 (Or.inr (slot_ne (Or.inr (hw _ (own_w 28 rfl))) (Or.inr (hw _ (own_w 26 rfl))) (by decide) (t := .double) (t' := .int) (by decide) (by decide))))
  have f19 := (f16.wr W17)
  obtain ⟨T20, h20, X20, e20, W20, st20⟩ := putF X17 hx hZ hown (host := "") (Or.inl (hw _ (own_w 27 rfl))) Via.refl e17 f18 f19 (Or.inr ⟨(hw _ (own_w 28 rfl)), rfl, hnm⟩) (hw _ (own_w 2 rfl)) (ty := .double) (by decide) rfl rfl (g := (mkF m 41 #[rv a0, .val (.double d1), .second, iv p2, iv p3, .val (.double d4), .second, .val (.double d5), .second, iv p6, .val (.double d7), .second, .val (.double d8), .second] [(.double d7), (.ref a0)])) rfl rfl (hb hby d1_41)
  have N20 := Fr.snoc X20 N17 hge
  have Z20 : n0 ≤ h20.size := Nat.le_trans Z17 (Nat.le_of_eq W20.size.symm)
  have K20 : Keep h0 h20 [a0] := K17.wr W20 (Or.inl (List.mem_of_getElem? (i := 0) rfl))
  have Fw20 := f18.same W20
  have f21 := (((((((hF_residualBandwidth.other W2 (Or.inr (slot_ne (Or.inr (hw _ (own_w 30 rfl))) (Or.inr (hw _ (own_w 16 rfl))) (by decide) (t := .double) (t' := .double) (by decide) (by decide)))).other W5 (Or.inr (slot_ne (Or.inr (hw _ (own_w 30 rfl))) (Or.inr (hw _ (own_w 18 rfl))) (by decide) (t := .double) (t' := .int) (by decide) (by decide)))).other W8 (Or.inr (slot_ne (Or.inr (hw _ (own_w 30 rfl))) (Or.inr (hw _ (own_w 20 rfl))) (by decide) (t := .double) (t' := .int) (by decide) (by decide)))).other W11 (Or.inr (slot_ne (Or.inr (hw _ (own_w 30 rfl))) (Or.inr (hw _ (own_w 22 rfl))) (by decide) (t := .double) (t' := .double) (by decide) (by decide)))).other W14 (Or.inr (slot_ne (Or.inr (hw _ (own_w 30 rfl))) (Or.inr (hw _ (own_w 24 rfl))) (by decide) (t := .double) (t' := .double) (by decide) (by decide)))).other W17 (Or.inr (slot_ne (Or.inr (hw _ (own_w 30 rfl))) (Or.inr (hw _ (own_w 26 rfl))) (by decide) (t := .double) (t' := .int) (by decide) (by decide)))).other W20 (Or.inr (slot_ne (Or.inr (hw _ (own_w 30 rfl))) (Or.inr (hw _ (own_w 28 rfl))) (by decide) (t := .double) (t' := .double) (by decide) (by decide))))
  have f22 := (f19.wr W20)
  obtain ⟨T23, h23, X23, e23, W23, st23⟩ := putF X20 hx hZ hown (host := "") (Or.inl (hw _ (own_w 29 rfl))) Via.refl e20 f21 f22 (Or.inr ⟨(hw _ (own_w 30 rfl)), rfl, hnm⟩) (hw _ (own_w 2 rfl)) (ty := .double) (by decide) rfl rfl (g := (mkF m 47 #[rv a0, .val (.double d1), .second, iv p2, iv p3, .val (.double d4), .second, .val (.double d5), .second, iv p6, .val (.double d7), .second, .val (.double d8), .second] [(.double d8), (.ref a0)])) rfl rfl (hb hby d1_47)
  have N23 := Fr.snoc X23 N20 hge
  have Z23 : n0 ≤ h23.size := Nat.le_trans Z20 (Nat.le_of_eq W23.size.symm)
  have K23 : Keep h0 h23 [a0] := K20.wr W23 (Or.inl (List.mem_of_getElem? (i := 0) rfl))
  have Fw23 := f21.same W23
  have S24 : ∀ tz, oS p e below T23 (mkF m 50 #[rv a0, .val (.double d1), .second, iv p2, iv p3, .val (.double d4), .second, .val (.double d5), .second, iv p6, .val (.double d7), .second, .val (.double d8), .second] []) tz → oS p e below s₁ (mkF m 0 #[rv a0, .val (.double d1), .second, iv p2, iv p3, .val (.double d4), .second, .val (.double d5), .second, iv p6, .val (.double d7), .second, .val (.double d8), .second] []) tz := fun tz kz => id (by
    show oS p e below s₁ (mkF m 0 #[rv a0, .val (.double d1), .second, iv p2, iv p3, .val (.double d4), .second, .val (.double d5), .second, iv p6, .val (.double d7), .second, .val (.double d8), .second] []) _
    refine XS.aloadN X0.here hx rfl (hb hby d1_0) rfl rfl ?_
    refine st1 _ ?_
    refine XS.aloadN X1.here hx rfl (hb hby d1_4) rfl rfl ?_
    refine XS.dloadN X1.here hx rfl (hb hby d1_5) rfl ?_
    refine st2 _ ?_
    refine XS.aloadN X2.here hx rfl (hb hby d1_9) rfl rfl ?_
    refine XS.iloadN X2.here hx rfl (hb hby d1_10) rfl ?_
    refine st5 _ ?_
    show oS p e below T5 (mkF m 14 #[rv a0, .val (.double d1), .second, iv p2, iv p3, .val (.double d4), .second, .val (.double d5), .second, iv p6, .val (.double d7), .second, .val (.double d8), .second] []) _
    refine XS.aloadN X5.here hx rfl (hb hby d1_14) rfl rfl ?_
    refine XS.iload X5.here hx rfl (hb hby d1_15) rfl ?_
    refine st8 _ ?_
    refine XS.aloadN X8.here hx rfl (hb hby d1_20) rfl rfl ?_
    refine XS.dload X8.here hx rfl (hb hby d1_21) rfl ?_
    refine st11 _ ?_
    refine XS.aloadN X11.here hx rfl (hb hby d1_26) rfl rfl ?_
    refine XS.dload X11.here hx rfl (hb hby d1_27) rfl ?_
    show oS p e below T11 (mkF m 29 #[rv a0, .val (.double d1), .second, iv p2, iv p3, .val (.double d4), .second, .val (.double d5), .second, iv p6, .val (.double d7), .second, .val (.double d8), .second] [(.double d5), (.ref a0)]) _
    refine st14 _ ?_
    refine XS.aloadN X14.here hx rfl (hb hby d1_32) rfl rfl ?_
    refine XS.iload X14.here hx rfl (hb hby d1_33) rfl ?_
    refine st17 _ ?_
    refine XS.aloadN X17.here hx rfl (hb hby d1_38) rfl rfl ?_
    refine XS.dload X17.here hx rfl (hb hby d1_39) rfl ?_
    refine st20 _ ?_
    refine XS.aloadN X20.here hx rfl (hb hby d1_44) rfl rfl ?_
    show oS p e below T20 (mkF m 45 #[rv a0, .val (.double d1), .second, iv p2, iv p3, .val (.double d4), .second, .val (.double d5), .second, iv p6, .val (.double d7), .second, .val (.double d8), .second] [(.ref a0)]) _
    refine XS.dload X20.here hx rfl (hb hby d1_45) rfl ?_
    refine st23 _ ?_
    exact kz)
  obtain ⟨fs, hr, hrun, hended, hW, hsame⟩ := X23.leave (v := none) (fun _ => rfl)
  refine ⟨_, _, pre0 _ (S24 _ ?_), hrun, hended, _, _, rfl, ?_, ⟨_, rfl⟩, hW, hsame.mono (by decide) (by decide)⟩
  · exact X23.returnOut hx Bd.returns (hb hby d1_50) hr
  have f25 := ((((Fw11.other W14 (Or.inr (slot_ne (Or.inr (hw _ (own_w 22 rfl))) (Or.inr (hw _ (own_w 24 rfl))) (by decide) (t := .double) (t' := .double) (by decide) (by decide)))).other W17 (Or.inr (slot_ne (Or.inr (hw _ (own_w 22 rfl))) (Or.inr (hw _ (own_w 26 rfl))) (by decide) (t := .double) (t' := .int) (by decide) (by decide)))).other W20 (Or.inr (slot_ne (Or.inr (hw _ (own_w 22 rfl))) (Or.inr (hw _ (own_w 28 rfl))) (by decide) (t := .double) (t' := .double) (by decide) (by decide)))).other W23 (Or.inr (slot_ne (Or.inr (hw _ (own_w 22 rfl))) (Or.inr (hw _ (own_w 30 rfl))) (by decide) (t := .double) (t' := .double) (by decide) (by decide))))
  have f26 := (((Fw14.other W17 (Or.inr (slot_ne (Or.inr (hw _ (own_w 24 rfl))) (Or.inr (hw _ (own_w 26 rfl))) (by decide) (t := .double) (t' := .int) (by decide) (by decide)))).other W20 (Or.inr (slot_ne (Or.inr (hw _ (own_w 24 rfl))) (Or.inr (hw _ (own_w 28 rfl))) (by decide) (t := .double) (t' := .double) (by decide) (by decide)))).other W23 (Or.inr (slot_ne (Or.inr (hw _ (own_w 24 rfl))) (Or.inr (hw _ (own_w 30 rfl))) (by decide) (t := .double) (t' := .double) (by decide) (by decide))))
  · show QrmSI Z a0 d1 p2 p3 d4 d5 p6 d7 d8 h0 n0 _ T23.heap _
    rw [e23]
    exact ⟨rfl, N23, K23, f25, f26⟩
theorem d4_0 : decode prog_53_method_5_code 0 = .ok (.aload_n 0, 1) := by decide +kernel
theorem d4_1 : decode prog_53_method_5_code 1 = .ok (.getfield 23, 3) := by decide +kernel
theorem d4_4 : decode prog_53_method_5_code 4 = .ok (.dconst 0, 1) := by decide +kernel
theorem d4_5 : decode prog_53_method_5_code 5 = .ok (.dcmp .l, 1) := by decide +kernel
theorem d4_6 : decode prog_53_method_5_code 6 = .ok (.ifCond .ne 9, 3) := by decide +kernel
theorem d4_9 : decode prog_53_method_5_code 9 = .ok (.invokestatic 35, 3) := by decide +kernel
theorem d4_12 : decode prog_53_method_5_code 12 = .ok (.goto 15, 3) := by decide +kernel
theorem d4_27 : decode prog_53_method_5_code 27 = .ok (.areturn, 1) := by decide +kernel
theorem pd__Ljava_util_OptionalDouble_ : parseMethodDescriptor "()Ljava/util/OptionalDouble;" = some ⟨[], some (.object "java/util/OptionalDouble")⟩ := by decide +kernel
def QrmRatE (Z : State) (a0 : Addr) (dc : UInt64) (dr : UInt64) (aE : Addr) (h0 : Heap) (n0 : Nat) (v : Option Value) (h : Heap) (L : List Loc) : Prop := v = some (.ref aE) ∧ Fr n0 L ∧ h = h0
set_option maxRecDepth 65536 in
set_option maxHeartbeats 40000000 in
theorem rmRatE (l : Launch) (Z : State) (av0 : Array Value) (hw : ∀ d ∈ tables_1, d.before av0 Z = true) (ws : List Jvm.Cond) (a0 : Addr) (dc : UInt64) (dr : UInt64) (aE : Addr) (h0 : Heap) (n0 : Nat) (Z0 : n0 ≤ h0.size) (hC : Fld Z h0 a0 "com/example/graftwork/graftwork/simulate/Summary" "cost" "D" (.double dc)) (hR : Fld Z h0 a0 "com/example/graftwork/graftwork/simulate/Summary" "revenue" "D" (.double dr)) (hz : cmpValue (FP.dcmp dc FP.dconst0) .l = 0) (hS : Sta Z h0 "java/util/OptionalDouble" "EMPTY" "Ljava/util/OptionalDouble;" (.ref aE)) :
    own_Met l mN7 prog_53_method_5_code 1 (some (.object "java/util/OptionalDouble")) ws ({ frames := 1, cells := 0, slots := 0, locals := 11 } : Room) #[(.ref a0)] Z h0 (QrmRatE Z a0 dc dr aE h0 n0) := by
  refine MetFree.of_bodySF (plainFor_of_name pn_Summary) hisR ?_
  intro p e s m args below meth c s₁ Bd hml0 hP hK
  obtain ⟨rfl, hZ, hh⟩ := hP
  have hml : c.maxLocals = 1 := hml0
  obtain ⟨hx, hby, hown, hnm, X0, e0⟩ := own_start Bd hml0 hh
  have N0 := Fr.nil n0
  have pre0 : ∀ tz, oS p e below s₁ (mkF m 0 #[rv a0] []) tz → Steps p.tables e below (s₁.setTop (entryFrame m #[(.ref a0)] 1)) tz := fun tz kz => castTop (by first | (simp [entryFrame, mkF, argsToLocals, Value.category]; done) | rfl) kz
  obtain ⟨T1, X1, e1, st1⟩ := getF X0 hx hZ hown (host := "") (Or.inl (hw _ (own_w 23 rfl))) Via.refl e0 hC (g := (mkF m 1 #[rv a0] [(.ref a0)])) rfl rfl (hb hby d4_1)
  obtain ⟨_, T2, Lc2, X2, hQ2, st2⟩ := own_callS (W := 0) (y := mN2) X1 hx hZ hown (hw _ (own_w 61 rfl)) (hw _ (own_w 62 rfl)) (hw _ (own_w 38 rfl)) (hw _ (own_w 63 rfl)) (by decide) (rmEm l Z av0 hw [] aE h0 n0 Z0 hS) (by decide) (by decide) (g := (mkF m 9 #[rv a0] [])) rfl (by rw [hml]; rfl) (argsL := []) (rest := []) (lenOf pd__Ljava_util_OptionalDouble_ rfl) rfl (hb hby d4_9) rfl e1 (by decide : 0 + 0 ≤ _) (by decide : 0 + 0 ≤ _)
  obtain ⟨rfl, N2q, hh2⟩ := hQ2
  have N2 := Fr.app N0 N2q
  have e2 : T2.heap = h0 := hh2
  have S3 : ∀ tz, oS p e below T2 (mkF m 27 #[rv a0] [(.ref aE)]) tz → oS p e below s₁ (mkF m 0 #[rv a0] []) tz := fun tz kz => id (by
    show oS p e below s₁ (mkF m 0 #[rv a0] []) _
    refine XS.aloadN X0.here hx rfl (hb hby d4_0) rfl rfl ?_
    refine st1 _ ?_
    refine XS.dconst0 X1.here hx rfl (hb hby d4_4) rfl ?_
    refine XS.dcmpS X1.here hx rfl (hb hby d4_5) rfl rfl ?_
    refine XS.ifNo X1.here hx rfl (hb hby d4_6) rfl (XT.i0_ne_f hz) ?_
    refine st2 _ ?_
    refine XS.goto X2.here hx rfl (pc0 := 12) (pc' := 27) rfl (hb hby d4_12) (by decide) (by decide) ?_
    exact kz)
  obtain ⟨fs, hr, hrun, hended, hW, hsame⟩ := X2.leave (v := some (.ref aE)) (fun h => by rw [Bd.returns] at h; cases h)
  refine ⟨_, _, pre0 _ (S3 _ ?_), hrun, hended, _, _, rfl, ?_, ⟨_, rfl⟩, hW, hsame.mono (by decide) (by decide)⟩
  · jvm_step X2.here [X2.here.top, hx, (hb hby d4_27), X2.method', Bd.returns, Value.isRef, FieldType.isReference]
    first | (intro acts; rw [hr _ acts rfl rfl rfl]) | rw [hr _ _ rfl rfl rfl]
    exact Steps.refl _
  · show QrmRatE Z a0 dc dr aE h0 n0 _ T2.heap _
    rw [e2]
    exact ⟨rfl, N2, rfl⟩
theorem d4_15 : decode prog_53_method_5_code 15 = .ok (.aload_n 0, 1) := by decide +kernel
theorem d4_16 : decode prog_53_method_5_code 16 = .ok (.getfield 20, 3) := by decide +kernel
theorem d4_19 : decode prog_53_method_5_code 19 = .ok (.aload_n 0, 1) := by decide +kernel
theorem d4_20 : decode prog_53_method_5_code 20 = .ok (.getfield 23, 3) := by decide +kernel
theorem d4_23 : decode prog_53_method_5_code 23 = .ok (.ddiv, 1) := by decide +kernel
theorem d4_24 : decode prog_53_method_5_code 24 = .ok (.invokestatic 41, 3) := by decide +kernel
theorem pd__D_Ljava_util_OptionalDouble_ : parseMethodDescriptor "(D)Ljava/util/OptionalDouble;" = some ⟨[.double], some (.object "java/util/OptionalDouble")⟩ := by decide +kernel
def QrmRatP (Z : State) (a0 : Addr) (dc : UInt64) (dr : UInt64) (h0 : Heap) (n0 : Nat) (v : Option Value) (h : Heap) (L : List Loc) : Prop := ∃ b : Addr, v = some (.ref b) ∧ Fr n0 L ∧ h0.size ≤ b ∧ Keep h0 h [] ∧ Exa Z h b "java/util/OptionalDouble" ∧ Fld Z h b "java/util/OptionalDouble" "isPresent" "Z" (.int (1 : Int32)) ∧ Fld Z h b "java/util/OptionalDouble" "value" "D" (.double (FP.ddiv dr dc))
set_option maxRecDepth 65536 in
set_option maxHeartbeats 40000000 in
theorem rmRatP (l : Launch) (Z : State) (av0 : Array Value) (hw : ∀ d ∈ tables_1, d.before av0 Z = true) (ws : List Jvm.Cond) (a0 : Addr) (dc : UInt64) (dr : UInt64) (h0 : Heap) (n0 : Nat) (Z0 : n0 ≤ h0.size) (hC : Fld Z h0 a0 "com/example/graftwork/graftwork/simulate/Summary" "cost" "D" (.double dc)) (hR : Fld Z h0 a0 "com/example/graftwork/graftwork/simulate/Summary" "revenue" "D" (.double dr)) (hz : ¬ cmpValue (FP.dcmp dc FP.dconst0) .l = 0) (hn : Jvm.Free.Fl.NoNaN64 (FP.ddiv dr dc)) :
    own_Met l mN7 prog_53_method_5_code 1 (some (.object "java/util/OptionalDouble")) ws ({ frames := 3, cells := 1, slots := 2, locals := 40 } : Room) #[(.ref a0)] Z h0 (QrmRatP Z a0 dc dr h0 n0) := by
  refine MetFree.of_bodySF (plainFor_of_name pn_Summary) hisR ?_
  intro p e s m args below meth c s₁ Bd hml0 hP hK
  obtain ⟨rfl, hZ, hh⟩ := hP
  have hml : c.maxLocals = 1 := hml0
  obtain ⟨hx, hby, hown, hnm, X0, e0⟩ := own_start Bd hml0 hh
  have N0 := Fr.nil n0
  have pre0 : ∀ tz, oS p e below s₁ (mkF m 0 #[rv a0] []) tz → Steps p.tables e below (s₁.setTop (entryFrame m #[(.ref a0)] 1)) tz := fun tz kz => castTop (by first | (simp [entryFrame, mkF, argsToLocals, Value.category]; done) | rfl) kz
  obtain ⟨T1, X1, e1, st1⟩ := getF X0 hx hZ hown (host := "") (Or.inl (hw _ (own_w 23 rfl))) Via.refl e0 hC (g := (mkF m 1 #[rv a0] [(.ref a0)])) rfl rfl (hb hby d4_1)
  obtain ⟨T2, X2, e2, st2⟩ := getF X1 hx hZ hown (host := "") (Or.inl (hw _ (own_w 21 rfl))) Via.refl e1 hR (g := (mkF m 16 #[rv a0] [(.ref a0)])) rfl rfl (hb hby d4_16)
  obtain ⟨T3, X3, e3, st3⟩ := getF X2 hx hZ hown (host := "") (Or.inl (hw _ (own_w 23 rfl))) Via.refl e2 hC (g := (mkF m 20 #[rv a0] [(.ref a0), (.double dr)])) rfl rfl (hb hby d4_20)
  obtain ⟨_, T4, Lc4, X4, hQ4, st4⟩ := own_callS (W := 0) (y := mN1) X3 hx hZ hown (hw _ (own_w 36 rfl)) (hw _ (own_w 37 rfl)) (hw _ (own_w 38 rfl)) (hw _ (own_w 39 rfl)) (by decide) (rmOf l Z av0 hw [] (FP.ddiv dr dc) h0 n0 Z0 ) (by decide) (by decide) (g := (mkF m 24 #[rv a0] [(.double (FP.ddiv dr dc))])) rfl (by rw [hml]; rfl) (argsL := [(.double (FP.ddiv dr dc))]) (rest := []) (lenOf pd__D_Ljava_util_OptionalDouble_ rfl) rfl (hb hby d4_24) rfl e3 (by decide : 0 + 1 ≤ _) (by decide : 0 + 2 ≤ _)
  obtain ⟨b4, rfl, N4q, gb4, K4, E4, I4, V4⟩ := hQ4
  have N4 := Fr.app N0 N4q
  have e4 : T4.heap = T4.heap := rfl
  have ge_b4 : n0 ≤ b4 := Nat.le_trans Z0 gb4
  have sz_b4 : h0.size ≤ b4 := gb4
  have Zk4 : n0 ≤ T4.heap.size := Nat.le_trans Z0 K4.1
  have Kk4 : Keep h0 T4.heap [] := (Keep.refl h0 []).trans K4 all0
  have S5 : ∀ tz, oS p e below T4 (mkF m 27 #[rv a0] [(.ref b4)]) tz → oS p e below s₁ (mkF m 0 #[rv a0] []) tz := fun tz kz => id (by
    show oS p e below s₁ (mkF m 0 #[rv a0] []) _
    refine XS.aloadN X0.here hx rfl (hb hby d4_0) rfl rfl ?_
    refine st1 _ ?_
    refine XS.dconst0 X1.here hx rfl (hb hby d4_4) rfl ?_
    refine XS.dcmpS X1.here hx rfl (hb hby d4_5) rfl rfl ?_
    refine XS.ifYes X1.here hx rfl (pc0 := 6) (pc' := 15) rfl (hb hby d4_6) rfl (XT.i0_ne_t hz) (by decide) (by decide) ?_
    refine XS.aloadN X1.here hx rfl (hb hby d4_15) rfl rfl ?_
    refine st2 _ ?_
    refine XS.aloadN X2.here hx rfl (hb hby d4_19) rfl rfl ?_
    show oS p e below T2 (mkF m 20 #[rv a0] [(.ref a0), (.double dr)]) _
    refine st3 _ ?_
    refine XS.ddivS X3.here hx rfl (hb hby d4_23) rfl hn rfl ?_
    refine st4 _ ?_
    exact kz)
  obtain ⟨fs, hr, hrun, hended, hW, hsame⟩ := X4.leave (v := some (.ref b4)) (fun h => by rw [Bd.returns] at h; cases h)
  refine ⟨_, _, pre0 _ (S5 _ ?_), hrun, hended, _, _, rfl, ?_, ⟨_, rfl⟩, hW, hsame.mono (by decide) (by decide)⟩
  · jvm_step X4.here [X4.here.top, hx, (hb hby d4_27), X4.method', Bd.returns, Value.isRef, FieldType.isReference]
    first | (intro acts; rw [hr _ acts rfl rfl rfl]) | rw [hr _ _ rfl rfl rfl]
    exact Steps.refl _
  · show QrmRatP Z a0 dc dr h0 n0 _ T4.heap _
    rw [e4]
    exact ⟨_, rfl, N4, sz_b4, Kk4, E4, I4, V4⟩
def Qlaw (Z : State) (p0 p1 p2 p3 p4 : Int32) (aE : Addr) (h0 : Heap) (n0 : Nat) (v : Option Value) (h : Heap) (L : List Loc) : Prop := v = some (.int (1 : Int32)) ∧ Fr n0 L
theorem pn_SummaryRevenueCostRatioPinLaw : plainName "com/example/graftwork/graftwork/simulate/SummaryRevenueCostRatioPinLaw" = true := by first | (simp [plainName, overriddenIn]; done) | decide +kernel
theorem pd__DIIDDIDD_V : parseMethodDescriptor "(DIIDDIDD)V" = some ⟨[.double, .int, .int, .double, .double, .int, .double, .double], none⟩ := by decide +kernel
theorem pd__Z : parseMethodDescriptor "()Z" = some ⟨[], some .boolean⟩ := by decide +kernel
set_option maxRecDepth 65536 in
set_option maxHeartbeats 40000000 in
theorem rm0z (l : Launch) (Z : State) (av0 : Array Value) (hw : ∀ d ∈ tables_1, d.before av0 Z = true) (ws : List Jvm.Cond) (p0 : Int32) (p1 : Int32) (p2 : Int32) (p3 : Int32) (p4 : Int32) (aE : Addr) (h0 : Heap) (n0 : Nat) (Z0 : n0 ≤ h0.size) (hSE : Sta Z h0 "java/util/OptionalDouble" "EMPTY" "Ljava/util/OptionalDouble;" (.ref aE)) (hEE : Exa Z h0 aE "java/util/OptionalDouble") (hFE : Fld Z h0 aE "java/util/OptionalDouble" "isPresent" "Z" (.int (0 : Int32))) (hc : (own_cc p1) = 0) :
    MetFree l x (head1 (Jvm.Cond.code x code maxLocals ret :: ws) room_1) (fun aU U => aU = #[(.int p0), (.int p1), (.int p2), (.int p3), (.int p4)] ∧ Z.Warmed39 U.vm ∧ U.heap = h0) (fun _ _ _ _ _ => True) (fun _ U oU U' => ∃ vU LU, oU = .returned vU ∧ Qlaw Z p0 p1 p2 p3 p4 aE h0 n0 vU U'.heap LU ∧ FrameEnd U oU U' LU room_1.cells room_1.slots) := by
  refine MetFree.of_bodySF (plainFor_of_name pn_SummaryRevenueCostRatioPinLaw) hisR ?_
  intro p e s m args below meth c s₁ Bd hml0 hP hK
  obtain ⟨rfl, hZ, hh⟩ := hP
  have hml : c.maxLocals = 18 := hml0
  obtain ⟨hx, hby, hown, hnm, X0, e0⟩ := own_start Bd hml0 hh
  have N0 := Fr.nil n0
  have pre0 : ∀ tz, oS p e below s₁ (mkF m 0 #[iv p0, iv p1, iv p2, iv p3, iv p4, .unset, .unset, .unset, .unset, .unset, .unset, .unset, .unset, .unset, .unset, .unset, .unset, .unset] []) tz → Steps p.tables e below (s₁.setTop (entryFrame m #[(.int p0), (.int p1), (.int p2), (.int p3), (.int p4)] maxLocals)) tz := fun tz kz => castTop (by first | (simp [entryFrame, mkF, argsToLocals, Value.category, maxLocals]; done) | rfl) kz
  have S1 : ∀ tz, oS p e below s₁ (mkF m 17 #[iv p0, iv p1, iv p2, iv p3, iv p4, iv (own_k p0), iv (own_cc p1), .unset, .unset, .unset, .unset, .unset, .unset, .unset, .unset, .unset, .unset, .unset] [(.int (p4 &&& (1 : Int32)))]) tz → oS p e below s₁ (mkF m 0 #[iv p0, iv p1, iv p2, iv p3, iv p4, .unset, .unset, .unset, .unset, .unset, .unset, .unset, .unset, .unset, .unset, .unset, .unset, .unset] []) tz := fun tz kz => id (by
    show oS p e below s₁ (mkF m 0 #[iv p0, iv p1, iv p2, iv p3, iv p4, .unset, .unset, .unset, .unset, .unset, .unset, .unset, .unset, .unset, .unset, .unset, .unset, .unset] []) _
    refine XS.iloadN X0.here hx rfl (hb hby at_0) rfl ?_
    refine X0.ldcI hx hown (mvT hZ (hw _ (own_w 0 rfl))) rfl (hb hby at_1) ?_
    refine XS.irem X0.here hx rfl (hb hby at_3) rfl (by decide) ?_
    show oS p e below s₁ (mkF m 4 #[iv p0, iv p1, iv p2, iv p3, iv p4, .unset, .unset, .unset, .unset, .unset, .unset, .unset, .unset, .unset, .unset, .unset, .unset, .unset] [(.int (p0 - (p0 / (1048576 : Int32)) * (1048576 : Int32)))]) _
    skip
    show oS p e below s₁ (mkF m 4 #[iv p0, iv p1, iv p2, iv p3, iv p4, .unset, .unset, .unset, .unset, .unset, .unset, .unset, .unset, .unset, .unset, .unset, .unset, .unset] [(.int (own_k p0))]) _
    refine XS.istore X0.here hx rfl (hb hby at_4) rfl (l' := #[iv p0, iv p1, iv p2, iv p3, iv p4, iv (own_k p0), .unset, .unset, .unset, .unset, .unset, .unset, .unset, .unset, .unset, .unset, .unset, .unset]) rfl ?_
    refine XS.iloadN X0.here hx rfl (hb hby at_6) rfl ?_
    refine XT.sipushV X0.here hx rfl (2048 : Int32) (hb hby at_7) (by decide) ?_
    refine XS.irem X0.here hx rfl (hb hby at_10) rfl (by decide) ?_
    show oS p e below s₁ (mkF m 11 #[iv p0, iv p1, iv p2, iv p3, iv p4, iv (own_k p0), .unset, .unset, .unset, .unset, .unset, .unset, .unset, .unset, .unset, .unset, .unset, .unset] [(.int (p1 - (p1 / (2048 : Int32)) * (2048 : Int32)))]) _
    show oS p e below s₁ (mkF m 11 #[iv p0, iv p1, iv p2, iv p3, iv p4, iv (own_k p0), .unset, .unset, .unset, .unset, .unset, .unset, .unset, .unset, .unset, .unset, .unset, .unset] [(.int (p1 - (p1 / (2048 : Int32)) * (2048 : Int32)))]) _
    skip
    show oS p e below s₁ (mkF m 11 #[iv p0, iv p1, iv p2, iv p3, iv p4, iv (own_k p0), .unset, .unset, .unset, .unset, .unset, .unset, .unset, .unset, .unset, .unset, .unset, .unset] [(.int (own_cc p1))]) _
    refine XS.istore X0.here hx rfl (hb hby at_11) rfl (l' := #[iv p0, iv p1, iv p2, iv p3, iv p4, iv (own_k p0), iv (own_cc p1), .unset, .unset, .unset, .unset, .unset, .unset, .unset, .unset, .unset, .unset, .unset]) rfl ?_
    refine XS.iload X0.here hx rfl (hb hby at_13) rfl ?_
    refine XT.iconstV X0.here hx rfl (1 : Int32) (hb hby at_15) (by decide) ?_
    refine XS.iand X0.here hx rfl (hb hby at_16) rfl ?_
    exact kz)
  by_cases hc17_2 : (p4 &&& (1 : Int32)) = (0 : Int32)
  · obtain ⟨T3, h3, X3, e3, E3, A3, D3, -, st3⟩ := newO X0 hx hZ hown (hw _ (own_w 1 rfl)) (hw _ (own_w 2 rfl)) (hw _ (own_w 3 rfl)) e0 (g := (mkF m 58 #[iv p0, iv p1, iv p2, iv p3, iv p4, iv (own_k p0), iv (own_cc p1), iv 0, .val (.long (((own_k p0)).toInt64 * ((own_cc p1)).toInt64)), .second, .val (.double (FP.l2d (((own_k p0)).toInt64 * ((own_cc p1)).toInt64))), .second, .val (.double (FP.i2d (own_cc p1))), .second, .unset, .unset, .unset, .unset] [])) rfl (hb hby at_58) (by decide) (by decide)
    obtain ⟨b3, g3⟩ : ∃ z, z = h0.size := ⟨_, rfl⟩
    rw [← g3] at A3 D3 st3
    have ne_aE_b3 : aE ≠ b3 := Nat.ne_of_lt (Nat.lt_of_lt_of_le hEE.lt (Nat.le_of_eq g3.symm))
    have ge_b3 : n0 ≤ b3 := Nat.le_trans Z0 (Nat.le_of_eq g3.symm)
    have sz_b3 : h0.size ≤ b3 := Nat.le_of_eq g3.symm
    have Z3 : n0 ≤ h3.size := Nat.le_trans Z0 E3.1
    have K3 : Keep h0 h3 [] := (Keep.refl h0 []).ext E3
    have F3_until : Fld Z h3 b3 "com/example/graftwork/graftwork/simulate/Summary" "until" "D" (defaultValue .double) := D3 (Or.inr (hw _ (own_w 16 rfl))) (ty := .double) (by decide)
    have F3_arrivals : Fld Z h3 b3 "com/example/graftwork/graftwork/simulate/Summary" "arrivals" "I" (.int 0) := D3 (Or.inr (hw _ (own_w 18 rfl))) (ty := .int) (by decide)
    have F3_accepted : Fld Z h3 b3 "com/example/graftwork/graftwork/simulate/Summary" "accepted" "I" (.int 0) := D3 (Or.inr (hw _ (own_w 20 rfl))) (ty := .int) (by decide)
    have F3_revenue : Fld Z h3 b3 "com/example/graftwork/graftwork/simulate/Summary" "revenue" "D" (defaultValue .double) := D3 (Or.inr (hw _ (own_w 22 rfl))) (ty := .double) (by decide)
    have F3_cost : Fld Z h3 b3 "com/example/graftwork/graftwork/simulate/Summary" "cost" "D" (defaultValue .double) := D3 (Or.inr (hw _ (own_w 24 rfl))) (ty := .double) (by decide)
    have F3_inService : Fld Z h3 b3 "com/example/graftwork/graftwork/simulate/Summary" "inService" "I" (.int 0) := D3 (Or.inr (hw _ (own_w 26 rfl))) (ty := .int) (by decide)
    have F3_residualCpu : Fld Z h3 b3 "com/example/graftwork/graftwork/simulate/Summary" "residualCpu" "D" (defaultValue .double) := D3 (Or.inr (hw _ (own_w 28 rfl))) (ty := .double) (by decide)
    have F3_residualBandwidth : Fld Z h3 b3 "com/example/graftwork/graftwork/simulate/Summary" "residualBandwidth" "D" (defaultValue .double) := D3 (Or.inr (hw _ (own_w 30 rfl))) (ty := .double) (by decide)
    obtain ⟨_, T4, Lc4, X4, hQ4, st4⟩ := own_special (W := 1) (y := mN6) X3 hx hZ rfl hown (hw _ (own_w 4 rfl)) (hw _ (own_w 5 rfl)) (hw _ (own_w 6 rfl)) (hw _ (own_w 3 rfl)) (by decide) (rmSI l Z av0 hw [] b3 (FP.i2d p2) p2 p3 (FP.l2d (((own_k p0)).toInt64 * ((own_cc p1)).toInt64)) (FP.i2d (own_cc p1)) (p2 ^^^ p3) (FP.i2d p3) (FP.i2d (p2 ^^^ p3)) h3 n0 Z3 A3 ge_b3 F3_until F3_arrivals F3_accepted F3_revenue F3_cost F3_inService F3_residualCpu F3_residualBandwidth) (by decide) (by decide) (g := (mkF m 79 #[iv p0, iv p1, iv p2, iv p3, iv p4, iv (own_k p0), iv (own_cc p1), iv 0, .val (.long (((own_k p0)).toInt64 * ((own_cc p1)).toInt64)), .second, .val (.double (FP.l2d (((own_k p0)).toInt64 * ((own_cc p1)).toInt64))), .second, .val (.double (FP.i2d (own_cc p1))), .second, .unset, .unset, .unset, .unset] [(.double (FP.i2d (p2 ^^^ p3))), (.double (FP.i2d p3)), (.int (p2 ^^^ p3)), (.double (FP.i2d (own_cc p1))), (.double (FP.l2d (((own_k p0)).toInt64 * ((own_cc p1)).toInt64))), (.int p3), (.int p2), (.double (FP.i2d p2)), (.ref b3), (.ref b3)])) rfl (by rw [hml]; rfl) (a := b3) (argsL := [(.double (FP.i2d p2)), (.int p2), (.int p3), (.double (FP.l2d (((own_k p0)).toInt64 * ((own_cc p1)).toInt64))), (.double (FP.i2d (own_cc p1))), (.int (p2 ^^^ p3)), (.double (FP.i2d p3)), (.double (FP.i2d (p2 ^^^ p3)))]) (rest := [(.ref b3)]) (lenOf pd__DIIDDIDD_V rfl) rfl (hb hby at_79) rfl e3 (by decide : 1 + 0 ≤ _) (by decide : 8 + 0 ≤ _)
    obtain ⟨rfl, N4q, K4, Frevenue4, Fcost4⟩ := hQ4
    have N4 := Fr.app N0 N4q
    have e4 : T4.heap = T4.heap := rfl
    have Zk4 : n0 ≤ T4.heap.size := Nat.le_trans Z3 K4.1
    have Kk4 : Keep h0 T4.heap [] := K3.trans K4 (allS (Or.inr sz_b3) all0)
    have f5 := (own_stak (hSE.ext E3) K4 (allS (own_exns A3) all0))
    have f7 := (A3.keep K4)
    obtain ⟨_, T6, Lc6, X6, hQ6, st6⟩ := own_virtual (W := 0) (y := mN7) (z := mN7) X4 hx hZ hown (hw _ (own_w 31 rfl)) (hw _ (own_w 32 rfl)) (notFace_of_selects (args := #[]) (mvT hZ (hw _ (own_w 34 rfl)))) (hw _ (own_w 34 rfl)) (hw _ (own_w 33 rfl)) (hw _ (own_w 35 rfl)) (hw _ (own_w 3 rfl)) (by decide) (rmRatE l Z av0 hw [] b3 (FP.i2d (own_cc p1)) (FP.l2d (((own_k p0)).toInt64 * ((own_cc p1)).toInt64)) aE T4.heap n0 Zk4 Fcost4 Frevenue4 (own_e0 (Own.own_cmp (Jvm.FP.Core.i2d_int _) Own.own_zint (own_cz hc))) f5) (by decide) (by decide) f7 (g := (mkF m 86 #[iv p0, iv p1, iv p2, iv p3, iv p4, iv (own_k p0), iv (own_cc p1), iv 0, .val (.long (((own_k p0)).toInt64 * ((own_cc p1)).toInt64)), .second, .val (.double (FP.l2d (((own_k p0)).toInt64 * ((own_cc p1)).toInt64))), .second, .val (.double (FP.i2d (own_cc p1))), .second, rv b3, .unset, .unset, .unset] [(.ref b3)])) rfl (by rw [hml]; rfl) (argsL := []) (rest := []) (lenOf pd__Ljava_util_OptionalDouble_ rfl) rfl (hb hby at_86) rfl e4 (by decide : 1 + 0 ≤ _) (by decide : 8 + 0 ≤ _)
    obtain ⟨rfl, N6q, hh6⟩ := hQ6
    have N6 := Fr.app N4 N6q
    have e6 : T6.heap = T4.heap := hh6
    have f8 := ((hFE.ext E3).keep K4 (ninS ne_aE_b3 nin0))
    have f10 := ((hEE.ext E3).keep K4)
    obtain ⟨_, T9, Lc9, X9, hQ9, st9⟩ := own_virtual (W := 0) (y := mN3) (z := mN3) X6 hx hZ hown (hw _ (own_w 51 rfl)) (hw _ (own_w 52 rfl)) (notFace_of_selects (args := #[]) (mvT hZ (hw _ (own_w 54 rfl)))) (hw _ (own_w 54 rfl)) (hw _ (own_w 53 rfl)) (hw _ (own_w 55 rfl)) (hw _ (own_w 38 rfl)) (by decide) (rmIs0 l Z av0 hw [] aE T4.heap n0 Zk4 f8) (by decide) (by decide) f10 (g := (mkF m 98 #[iv p0, iv p1, iv p2, iv p3, iv p4, iv (own_k p0), iv (own_cc p1), iv 0, .val (.long (((own_k p0)).toInt64 * ((own_cc p1)).toInt64)), .second, .val (.double (FP.l2d (((own_k p0)).toInt64 * ((own_cc p1)).toInt64))), .second, .val (.double (FP.i2d (own_cc p1))), .second, rv b3, rv aE, .unset, .unset] [(.ref aE)])) rfl (by rw [hml]; rfl) (argsL := []) (rest := []) (lenOf pd__Z rfl) rfl (hb hby at_98) rfl e6 (by decide : 1 + 0 ≤ _) (by decide : 8 + 0 ≤ _)
    obtain ⟨rfl, N9q, hh9⟩ := hQ9
    have N9 := Fr.app N6 N9q
    have e9 : T9.heap = T4.heap := hh9
    have S11 : ∀ tz, oS p e below T9 (mkF m 109 #[iv p0, iv p1, iv p2, iv p3, iv p4, iv (own_k p0), iv (own_cc p1), iv 0, .val (.long (((own_k p0)).toInt64 * ((own_cc p1)).toInt64)), .second, .val (.double (FP.l2d (((own_k p0)).toInt64 * ((own_cc p1)).toInt64))), .second, .val (.double (FP.i2d (own_cc p1))), .second, rv b3, rv aE, .unset, .unset] [(.int 1)]) tz → oS p e below s₁ (mkF m 0 #[iv p0, iv p1, iv p2, iv p3, iv p4, .unset, .unset, .unset, .unset, .unset, .unset, .unset, .unset, .unset, .unset, .unset, .unset, .unset] []) tz := fun tz kz => S1 tz (by
      show oS p e below s₁ (mkF m 17 #[iv p0, iv p1, iv p2, iv p3, iv p4, iv (own_k p0), iv (own_cc p1), .unset, .unset, .unset, .unset, .unset, .unset, .unset, .unset, .unset, .unset, .unset] [(.int (p4 &&& (1 : Int32)))]) _
      refine XS.ifYes X0.here hx rfl (pc0 := 17) (pc' := 24) rfl (hb hby at_17) rfl (XT.i0_eq_t hc17_2) (by decide) (by decide) ?_
      refine XT.iconstV X0.here hx rfl (0 : Int32) (hb hby at_24) (by decide) ?_
      refine XS.istore X0.here hx rfl (hb hby at_25) rfl (l' := #[iv p0, iv p1, iv p2, iv p3, iv p4, iv (own_k p0), iv (own_cc p1), iv 0, .unset, .unset, .unset, .unset, .unset, .unset, .unset, .unset, .unset, .unset]) rfl ?_
      show oS p e below s₁ (mkF m 27 #[iv p0, iv p1, iv p2, iv p3, iv p4, iv (own_k p0), iv (own_cc p1), iv 0, .unset, .unset, .unset, .unset, .unset, .unset, .unset, .unset, .unset, .unset] []) _
      refine XS.iload X0.here hx rfl (hb hby at_27) rfl ?_
      refine XT.i2l X0.here hx rfl (hb hby at_29) rfl ?_
      refine XS.iload X0.here hx rfl (hb hby at_30) rfl ?_
      refine XT.i2l X0.here hx rfl (hb hby at_32) rfl ?_
      refine XT.lmul X0.here hx rfl (hb hby at_33) rfl ?_
      refine XT.lstore X0.here hx rfl (hb hby at_34) rfl (l' := #[iv p0, iv p1, iv p2, iv p3, iv p4, iv (own_k p0), iv (own_cc p1), iv 0, .val (.long (((own_k p0)).toInt64 * ((own_cc p1)).toInt64)), .second, .unset, .unset, .unset, .unset, .unset, .unset, .unset, .unset]) rfl ?_
      refine XT.lload X0.here hx rfl (hb hby at_36) rfl ?_
      refine XS.l2dS X0.here hx rfl (hb hby at_38) rfl rfl ?_
      show oS p e below s₁ (mkF m 39 #[iv p0, iv p1, iv p2, iv p3, iv p4, iv (own_k p0), iv (own_cc p1), iv 0, .val (.long (((own_k p0)).toInt64 * ((own_cc p1)).toInt64)), .second, .unset, .unset, .unset, .unset, .unset, .unset, .unset, .unset] [(.double (FP.l2d (((own_k p0)).toInt64 * ((own_cc p1)).toInt64)))]) _
      refine XS.dstore X0.here hx rfl (hb hby at_39) rfl (l' := #[iv p0, iv p1, iv p2, iv p3, iv p4, iv (own_k p0), iv (own_cc p1), iv 0, .val (.long (((own_k p0)).toInt64 * ((own_cc p1)).toInt64)), .second, .val (.double (FP.l2d (((own_k p0)).toInt64 * ((own_cc p1)).toInt64))), .second, .unset, .unset, .unset, .unset, .unset, .unset]) rfl ?_
      refine XS.iload X0.here hx rfl (hb hby at_41) rfl ?_
      refine XS.ifYes X0.here hx rfl (pc0 := 43) (pc' := 53) rfl (hb hby at_43) rfl (XT.i0_eq_t (by decide)) (by decide) (by decide) ?_
      refine XS.iload X0.here hx rfl (hb hby at_53) rfl ?_
      refine XS.i2dS X0.here hx rfl (hb hby at_55) rfl rfl ?_
      refine XS.dstore X0.here hx rfl (hb hby at_56) rfl (l' := #[iv p0, iv p1, iv p2, iv p3, iv p4, iv (own_k p0), iv (own_cc p1), iv 0, .val (.long (((own_k p0)).toInt64 * ((own_cc p1)).toInt64)), .second, .val (.double (FP.l2d (((own_k p0)).toInt64 * ((own_cc p1)).toInt64))), .second, .val (.double (FP.i2d (own_cc p1))), .second, .unset, .unset, .unset, .unset]) rfl ?_
      refine st3 _ ?_
      refine XS.dup X3.here hx rfl (hb hby at_61) rfl rfl ?_
      show oS p e below T3 (mkF m 62 #[iv p0, iv p1, iv p2, iv p3, iv p4, iv (own_k p0), iv (own_cc p1), iv 0, .val (.long (((own_k p0)).toInt64 * ((own_cc p1)).toInt64)), .second, .val (.double (FP.l2d (((own_k p0)).toInt64 * ((own_cc p1)).toInt64))), .second, .val (.double (FP.i2d (own_cc p1))), .second, .unset, .unset, .unset, .unset] [(.ref b3), (.ref b3)]) _
      refine XS.iloadN X3.here hx rfl (hb hby at_62) rfl ?_
      refine XS.i2dS X3.here hx rfl (hb hby at_63) rfl rfl ?_
      refine XS.iloadN X3.here hx rfl (hb hby at_64) rfl ?_
      refine XS.iloadN X3.here hx rfl (hb hby at_65) rfl ?_
      refine XS.dload X3.here hx rfl (hb hby at_66) rfl ?_
      refine XS.dload X3.here hx rfl (hb hby at_68) rfl ?_
      refine XS.iloadN X3.here hx rfl (hb hby at_70) rfl ?_
      refine XS.iloadN X3.here hx rfl (hb hby at_71) rfl ?_
      show oS p e below T3 (mkF m 72 #[iv p0, iv p1, iv p2, iv p3, iv p4, iv (own_k p0), iv (own_cc p1), iv 0, .val (.long (((own_k p0)).toInt64 * ((own_cc p1)).toInt64)), .second, .val (.double (FP.l2d (((own_k p0)).toInt64 * ((own_cc p1)).toInt64))), .second, .val (.double (FP.i2d (own_cc p1))), .second, .unset, .unset, .unset, .unset] [(.int p3), (.int p2), (.double (FP.i2d (own_cc p1))), (.double (FP.l2d (((own_k p0)).toInt64 * ((own_cc p1)).toInt64))), (.int p3), (.int p2), (.double (FP.i2d p2)), (.ref b3), (.ref b3)]) _
      refine XT.ixor X3.here hx rfl (hb hby at_72) rfl ?_
      refine XS.iloadN X3.here hx rfl (hb hby at_73) rfl ?_
      refine XS.i2dS X3.here hx rfl (hb hby at_74) rfl rfl ?_
      refine XS.iloadN X3.here hx rfl (hb hby at_75) rfl ?_
      refine XS.iloadN X3.here hx rfl (hb hby at_76) rfl ?_
      refine XT.ixor X3.here hx rfl (hb hby at_77) rfl ?_
      refine XS.i2dS X3.here hx rfl (hb hby at_78) rfl rfl ?_
      refine st4 _ ?_
      show oS p e below T4 (mkF m 82 #[iv p0, iv p1, iv p2, iv p3, iv p4, iv (own_k p0), iv (own_cc p1), iv 0, .val (.long (((own_k p0)).toInt64 * ((own_cc p1)).toInt64)), .second, .val (.double (FP.l2d (((own_k p0)).toInt64 * ((own_cc p1)).toInt64))), .second, .val (.double (FP.i2d (own_cc p1))), .second, .unset, .unset, .unset, .unset] [(.ref b3)]) _
      refine XS.astore X4.here hx rfl (hb hby at_82) rfl rfl (l' := #[iv p0, iv p1, iv p2, iv p3, iv p4, iv (own_k p0), iv (own_cc p1), iv 0, .val (.long (((own_k p0)).toInt64 * ((own_cc p1)).toInt64)), .second, .val (.double (FP.l2d (((own_k p0)).toInt64 * ((own_cc p1)).toInt64))), .second, .val (.double (FP.i2d (own_cc p1))), .second, rv b3, .unset, .unset, .unset]) rfl ?_
      refine XS.aload X4.here hx rfl (hb hby at_84) rfl rfl ?_
      refine st6 _ ?_
      refine XS.astore X6.here hx rfl (hb hby at_89) rfl rfl (l' := #[iv p0, iv p1, iv p2, iv p3, iv p4, iv (own_k p0), iv (own_cc p1), iv 0, .val (.long (((own_k p0)).toInt64 * ((own_cc p1)).toInt64)), .second, .val (.double (FP.l2d (((own_k p0)).toInt64 * ((own_cc p1)).toInt64))), .second, .val (.double (FP.i2d (own_cc p1))), .second, rv b3, rv aE, .unset, .unset]) rfl ?_
      refine XS.iload X6.here hx rfl (hb hby at_91) rfl ?_
      refine XS.ifNo X6.here hx rfl (hb hby at_93) rfl (XT.i0_ne_f hc) ?_
      refine XS.aload X6.here hx rfl (hb hby at_96) rfl rfl ?_
      refine st9 _ ?_
      show oS p e below T9 (mkF m 101 #[iv p0, iv p1, iv p2, iv p3, iv p4, iv (own_k p0), iv (own_cc p1), iv 0, .val (.long (((own_k p0)).toInt64 * ((own_cc p1)).toInt64)), .second, .val (.double (FP.l2d (((own_k p0)).toInt64 * ((own_cc p1)).toInt64))), .second, .val (.double (FP.i2d (own_cc p1))), .second, rv b3, rv aE, .unset, .unset] [(.int 0)]) _
      refine XS.ifNo X9.here hx rfl (hb hby at_101) rfl (XT.i0_ne_f (by decide)) ?_
      refine XT.iconstV X9.here hx rfl (1 : Int32) (hb hby at_104) (by decide) ?_
      refine XS.goto X9.here hx rfl (pc0 := 105) (pc' := 109) rfl (hb hby at_105) (by decide) (by decide) ?_
      exact kz)
    obtain ⟨fs, hr, hrun, hended, hW, hsame⟩ := X9.leave (v := some (.int 1)) (fun h => by rw [Bd.returns] at h; cases h)
    refine ⟨_, _, pre0 _ (S11 _ ?_), hrun, hended, _, _, rfl, ?_, ⟨_, rfl⟩, hW, hsame.mono (by decide) (by decide)⟩
    · exact retN X9 hx (t := .boolean) Bd.returns (by simp) (hb hby at_109) hr
    · show Qlaw Z p0 p1 p2 p3 p4 aE h0 n0 _ T9.heap _
      rw [e9]
      exact ⟨rfl, N9⟩
  · obtain ⟨T12, h12, X12, e12, E12, A12, D12, -, st12⟩ := newO X0 hx hZ hown (hw _ (own_w 1 rfl)) (hw _ (own_w 2 rfl)) (hw _ (own_w 3 rfl)) e0 (g := (mkF m 58 #[iv p0, iv p1, iv p2, iv p3, iv p4, iv (own_k p0), iv (own_cc p1), iv 1, .val (.long (((own_k p0)).toInt64 * ((own_cc p1)).toInt64)), .second, .val (.double (FP.l2d (((own_k p0)).toInt64 * ((own_cc p1)).toInt64))), .second, .val (.double (FP.dneg (FP.i2d (own_cc p1)))), .second, .unset, .unset, .unset, .unset] [])) rfl (hb hby at_58) (by decide) (by decide)
    obtain ⟨b12, g12⟩ : ∃ z, z = h0.size := ⟨_, rfl⟩
    rw [← g12] at A12 D12 st12
    have ne_aE_b12 : aE ≠ b12 := Nat.ne_of_lt (Nat.lt_of_lt_of_le hEE.lt (Nat.le_of_eq g12.symm))
    have ge_b12 : n0 ≤ b12 := Nat.le_trans Z0 (Nat.le_of_eq g12.symm)
    have sz_b12 : h0.size ≤ b12 := Nat.le_of_eq g12.symm
    have Z12 : n0 ≤ h12.size := Nat.le_trans Z0 E12.1
    have K12 : Keep h0 h12 [] := (Keep.refl h0 []).ext E12
    have F12_until : Fld Z h12 b12 "com/example/graftwork/graftwork/simulate/Summary" "until" "D" (defaultValue .double) := D12 (Or.inr (hw _ (own_w 16 rfl))) (ty := .double) (by decide)
    have F12_arrivals : Fld Z h12 b12 "com/example/graftwork/graftwork/simulate/Summary" "arrivals" "I" (.int 0) := D12 (Or.inr (hw _ (own_w 18 rfl))) (ty := .int) (by decide)
    have F12_accepted : Fld Z h12 b12 "com/example/graftwork/graftwork/simulate/Summary" "accepted" "I" (.int 0) := D12 (Or.inr (hw _ (own_w 20 rfl))) (ty := .int) (by decide)
    have F12_revenue : Fld Z h12 b12 "com/example/graftwork/graftwork/simulate/Summary" "revenue" "D" (defaultValue .double) := D12 (Or.inr (hw _ (own_w 22 rfl))) (ty := .double) (by decide)
    have F12_cost : Fld Z h12 b12 "com/example/graftwork/graftwork/simulate/Summary" "cost" "D" (defaultValue .double) := D12 (Or.inr (hw _ (own_w 24 rfl))) (ty := .double) (by decide)
    have F12_inService : Fld Z h12 b12 "com/example/graftwork/graftwork/simulate/Summary" "inService" "I" (.int 0) := D12 (Or.inr (hw _ (own_w 26 rfl))) (ty := .int) (by decide)
    have F12_residualCpu : Fld Z h12 b12 "com/example/graftwork/graftwork/simulate/Summary" "residualCpu" "D" (defaultValue .double) := D12 (Or.inr (hw _ (own_w 28 rfl))) (ty := .double) (by decide)
    have F12_residualBandwidth : Fld Z h12 b12 "com/example/graftwork/graftwork/simulate/Summary" "residualBandwidth" "D" (defaultValue .double) := D12 (Or.inr (hw _ (own_w 30 rfl))) (ty := .double) (by decide)
    obtain ⟨_, T13, Lc13, X13, hQ13, st13⟩ := own_special (W := 1) (y := mN6) X12 hx hZ rfl hown (hw _ (own_w 4 rfl)) (hw _ (own_w 5 rfl)) (hw _ (own_w 6 rfl)) (hw _ (own_w 3 rfl)) (by decide) (rmSI l Z av0 hw [] b12 (FP.i2d p2) p2 p3 (FP.l2d (((own_k p0)).toInt64 * ((own_cc p1)).toInt64)) (FP.dneg (FP.i2d (own_cc p1))) (p2 ^^^ p3) (FP.i2d p3) (FP.i2d (p2 ^^^ p3)) h12 n0 Z12 A12 ge_b12 F12_until F12_arrivals F12_accepted F12_revenue F12_cost F12_inService F12_residualCpu F12_residualBandwidth) (by decide) (by decide) (g := (mkF m 79 #[iv p0, iv p1, iv p2, iv p3, iv p4, iv (own_k p0), iv (own_cc p1), iv 1, .val (.long (((own_k p0)).toInt64 * ((own_cc p1)).toInt64)), .second, .val (.double (FP.l2d (((own_k p0)).toInt64 * ((own_cc p1)).toInt64))), .second, .val (.double (FP.dneg (FP.i2d (own_cc p1)))), .second, .unset, .unset, .unset, .unset] [(.double (FP.i2d (p2 ^^^ p3))), (.double (FP.i2d p3)), (.int (p2 ^^^ p3)), (.double (FP.dneg (FP.i2d (own_cc p1)))), (.double (FP.l2d (((own_k p0)).toInt64 * ((own_cc p1)).toInt64))), (.int p3), (.int p2), (.double (FP.i2d p2)), (.ref b12), (.ref b12)])) rfl (by rw [hml]; rfl) (a := b12) (argsL := [(.double (FP.i2d p2)), (.int p2), (.int p3), (.double (FP.l2d (((own_k p0)).toInt64 * ((own_cc p1)).toInt64))), (.double (FP.dneg (FP.i2d (own_cc p1)))), (.int (p2 ^^^ p3)), (.double (FP.i2d p3)), (.double (FP.i2d (p2 ^^^ p3)))]) (rest := [(.ref b12)]) (lenOf pd__DIIDDIDD_V rfl) rfl (hb hby at_79) rfl e12 (by decide : 1 + 0 ≤ _) (by decide : 8 + 0 ≤ _)
    obtain ⟨rfl, N13q, K13, Frevenue13, Fcost13⟩ := hQ13
    have N13 := Fr.app N0 N13q
    have e13 : T13.heap = T13.heap := rfl
    have Zk13 : n0 ≤ T13.heap.size := Nat.le_trans Z12 K13.1
    have Kk13 : Keep h0 T13.heap [] := K12.trans K13 (allS (Or.inr sz_b12) all0)
    have f14 := (own_stak (hSE.ext E12) K13 (allS (own_exns A12) all0))
    have f16 := (A12.keep K13)
    obtain ⟨_, T15, Lc15, X15, hQ15, st15⟩ := own_virtual (W := 0) (y := mN7) (z := mN7) X13 hx hZ hown (hw _ (own_w 31 rfl)) (hw _ (own_w 32 rfl)) (notFace_of_selects (args := #[]) (mvT hZ (hw _ (own_w 34 rfl)))) (hw _ (own_w 34 rfl)) (hw _ (own_w 33 rfl)) (hw _ (own_w 35 rfl)) (hw _ (own_w 3 rfl)) (by decide) (rmRatE l Z av0 hw [] b12 (FP.dneg (FP.i2d (own_cc p1))) (FP.l2d (((own_k p0)).toInt64 * ((own_cc p1)).toInt64)) aE T13.heap n0 Zk13 Fcost13 Frevenue13 (own_e0 (Own.own_cmp (Own.own_dneg_int (Jvm.FP.Core.i2d_int _)) Own.own_zint (own_czn hc))) f14) (by decide) (by decide) f16 (g := (mkF m 86 #[iv p0, iv p1, iv p2, iv p3, iv p4, iv (own_k p0), iv (own_cc p1), iv 1, .val (.long (((own_k p0)).toInt64 * ((own_cc p1)).toInt64)), .second, .val (.double (FP.l2d (((own_k p0)).toInt64 * ((own_cc p1)).toInt64))), .second, .val (.double (FP.dneg (FP.i2d (own_cc p1)))), .second, rv b12, .unset, .unset, .unset] [(.ref b12)])) rfl (by rw [hml]; rfl) (argsL := []) (rest := []) (lenOf pd__Ljava_util_OptionalDouble_ rfl) rfl (hb hby at_86) rfl e13 (by decide : 1 + 0 ≤ _) (by decide : 8 + 0 ≤ _)
    obtain ⟨rfl, N15q, hh15⟩ := hQ15
    have N15 := Fr.app N13 N15q
    have e15 : T15.heap = T13.heap := hh15
    have f17 := ((hFE.ext E12).keep K13 (ninS ne_aE_b12 nin0))
    have f19 := ((hEE.ext E12).keep K13)
    obtain ⟨_, T18, Lc18, X18, hQ18, st18⟩ := own_virtual (W := 0) (y := mN3) (z := mN3) X15 hx hZ hown (hw _ (own_w 51 rfl)) (hw _ (own_w 52 rfl)) (notFace_of_selects (args := #[]) (mvT hZ (hw _ (own_w 54 rfl)))) (hw _ (own_w 54 rfl)) (hw _ (own_w 53 rfl)) (hw _ (own_w 55 rfl)) (hw _ (own_w 38 rfl)) (by decide) (rmIs0 l Z av0 hw [] aE T13.heap n0 Zk13 f17) (by decide) (by decide) f19 (g := (mkF m 98 #[iv p0, iv p1, iv p2, iv p3, iv p4, iv (own_k p0), iv (own_cc p1), iv 1, .val (.long (((own_k p0)).toInt64 * ((own_cc p1)).toInt64)), .second, .val (.double (FP.l2d (((own_k p0)).toInt64 * ((own_cc p1)).toInt64))), .second, .val (.double (FP.dneg (FP.i2d (own_cc p1)))), .second, rv b12, rv aE, .unset, .unset] [(.ref aE)])) rfl (by rw [hml]; rfl) (argsL := []) (rest := []) (lenOf pd__Z rfl) rfl (hb hby at_98) rfl e15 (by decide : 1 + 0 ≤ _) (by decide : 8 + 0 ≤ _)
    obtain ⟨rfl, N18q, hh18⟩ := hQ18
    have N18 := Fr.app N15 N18q
    have e18 : T18.heap = T13.heap := hh18
    have S20 : ∀ tz, oS p e below T18 (mkF m 109 #[iv p0, iv p1, iv p2, iv p3, iv p4, iv (own_k p0), iv (own_cc p1), iv 1, .val (.long (((own_k p0)).toInt64 * ((own_cc p1)).toInt64)), .second, .val (.double (FP.l2d (((own_k p0)).toInt64 * ((own_cc p1)).toInt64))), .second, .val (.double (FP.dneg (FP.i2d (own_cc p1)))), .second, rv b12, rv aE, .unset, .unset] [(.int 1)]) tz → oS p e below s₁ (mkF m 0 #[iv p0, iv p1, iv p2, iv p3, iv p4, .unset, .unset, .unset, .unset, .unset, .unset, .unset, .unset, .unset, .unset, .unset, .unset, .unset] []) tz := fun tz kz => S1 tz (by
      show oS p e below s₁ (mkF m 17 #[iv p0, iv p1, iv p2, iv p3, iv p4, iv (own_k p0), iv (own_cc p1), .unset, .unset, .unset, .unset, .unset, .unset, .unset, .unset, .unset, .unset, .unset] [(.int (p4 &&& (1 : Int32)))]) _
      refine XS.ifNo X0.here hx rfl (hb hby at_17) rfl (XT.i0_eq_f hc17_2) ?_
      refine XT.iconstV X0.here hx rfl (1 : Int32) (hb hby at_20) (by decide) ?_
      refine XS.goto X0.here hx rfl (pc0 := 21) (pc' := 25) rfl (hb hby at_21) (by decide) (by decide) ?_
      show oS p e below s₁ (mkF m 25 #[iv p0, iv p1, iv p2, iv p3, iv p4, iv (own_k p0), iv (own_cc p1), .unset, .unset, .unset, .unset, .unset, .unset, .unset, .unset, .unset, .unset, .unset] [(.int 1)]) _
      refine XS.istore X0.here hx rfl (hb hby at_25) rfl (l' := #[iv p0, iv p1, iv p2, iv p3, iv p4, iv (own_k p0), iv (own_cc p1), iv 1, .unset, .unset, .unset, .unset, .unset, .unset, .unset, .unset, .unset, .unset]) rfl ?_
      refine XS.iload X0.here hx rfl (hb hby at_27) rfl ?_
      refine XT.i2l X0.here hx rfl (hb hby at_29) rfl ?_
      refine XS.iload X0.here hx rfl (hb hby at_30) rfl ?_
      refine XT.i2l X0.here hx rfl (hb hby at_32) rfl ?_
      refine XT.lmul X0.here hx rfl (hb hby at_33) rfl ?_
      refine XT.lstore X0.here hx rfl (hb hby at_34) rfl (l' := #[iv p0, iv p1, iv p2, iv p3, iv p4, iv (own_k p0), iv (own_cc p1), iv 1, .val (.long (((own_k p0)).toInt64 * ((own_cc p1)).toInt64)), .second, .unset, .unset, .unset, .unset, .unset, .unset, .unset, .unset]) rfl ?_
      refine XT.lload X0.here hx rfl (hb hby at_36) rfl ?_
      show oS p e below s₁ (mkF m 38 #[iv p0, iv p1, iv p2, iv p3, iv p4, iv (own_k p0), iv (own_cc p1), iv 1, .val (.long (((own_k p0)).toInt64 * ((own_cc p1)).toInt64)), .second, .unset, .unset, .unset, .unset, .unset, .unset, .unset, .unset] [(.long (((own_k p0)).toInt64 * ((own_cc p1)).toInt64))]) _
      refine XS.l2dS X0.here hx rfl (hb hby at_38) rfl rfl ?_
      refine XS.dstore X0.here hx rfl (hb hby at_39) rfl (l' := #[iv p0, iv p1, iv p2, iv p3, iv p4, iv (own_k p0), iv (own_cc p1), iv 1, .val (.long (((own_k p0)).toInt64 * ((own_cc p1)).toInt64)), .second, .val (.double (FP.l2d (((own_k p0)).toInt64 * ((own_cc p1)).toInt64))), .second, .unset, .unset, .unset, .unset, .unset, .unset]) rfl ?_
      refine XS.iload X0.here hx rfl (hb hby at_41) rfl ?_
      refine XS.ifNo X0.here hx rfl (hb hby at_43) rfl (XT.i0_eq_f (by decide)) ?_
      refine XS.iload X0.here hx rfl (hb hby at_46) rfl ?_
      refine XS.i2dS X0.here hx rfl (hb hby at_48) rfl rfl ?_
      refine XS.dnegS X0.here hx rfl (hb hby at_49) rfl rfl ?_
      refine XS.goto X0.here hx rfl (pc0 := 50) (pc' := 56) rfl (hb hby at_50) (by decide) (by decide) ?_
      show oS p e below s₁ (mkF m 56 #[iv p0, iv p1, iv p2, iv p3, iv p4, iv (own_k p0), iv (own_cc p1), iv 1, .val (.long (((own_k p0)).toInt64 * ((own_cc p1)).toInt64)), .second, .val (.double (FP.l2d (((own_k p0)).toInt64 * ((own_cc p1)).toInt64))), .second, .unset, .unset, .unset, .unset, .unset, .unset] [(.double (FP.dneg (FP.i2d (own_cc p1))))]) _
      refine XS.dstore X0.here hx rfl (hb hby at_56) rfl (l' := #[iv p0, iv p1, iv p2, iv p3, iv p4, iv (own_k p0), iv (own_cc p1), iv 1, .val (.long (((own_k p0)).toInt64 * ((own_cc p1)).toInt64)), .second, .val (.double (FP.l2d (((own_k p0)).toInt64 * ((own_cc p1)).toInt64))), .second, .val (.double (FP.dneg (FP.i2d (own_cc p1)))), .second, .unset, .unset, .unset, .unset]) rfl ?_
      refine st12 _ ?_
      refine XS.dup X12.here hx rfl (hb hby at_61) rfl rfl ?_
      refine XS.iloadN X12.here hx rfl (hb hby at_62) rfl ?_
      refine XS.i2dS X12.here hx rfl (hb hby at_63) rfl rfl ?_
      refine XS.iloadN X12.here hx rfl (hb hby at_64) rfl ?_
      refine XS.iloadN X12.here hx rfl (hb hby at_65) rfl ?_
      refine XS.dload X12.here hx rfl (hb hby at_66) rfl ?_
      show oS p e below T12 (mkF m 68 #[iv p0, iv p1, iv p2, iv p3, iv p4, iv (own_k p0), iv (own_cc p1), iv 1, .val (.long (((own_k p0)).toInt64 * ((own_cc p1)).toInt64)), .second, .val (.double (FP.l2d (((own_k p0)).toInt64 * ((own_cc p1)).toInt64))), .second, .val (.double (FP.dneg (FP.i2d (own_cc p1)))), .second, .unset, .unset, .unset, .unset] [(.double (FP.l2d (((own_k p0)).toInt64 * ((own_cc p1)).toInt64))), (.int p3), (.int p2), (.double (FP.i2d p2)), (.ref b12), (.ref b12)]) _
      refine XS.dload X12.here hx rfl (hb hby at_68) rfl ?_
      refine XS.iloadN X12.here hx rfl (hb hby at_70) rfl ?_
      refine XS.iloadN X12.here hx rfl (hb hby at_71) rfl ?_
      refine XT.ixor X12.here hx rfl (hb hby at_72) rfl ?_
      refine XS.iloadN X12.here hx rfl (hb hby at_73) rfl ?_
      refine XS.i2dS X12.here hx rfl (hb hby at_74) rfl rfl ?_
      refine XS.iloadN X12.here hx rfl (hb hby at_75) rfl ?_
      refine XS.iloadN X12.here hx rfl (hb hby at_76) rfl ?_
      show oS p e below T12 (mkF m 77 #[iv p0, iv p1, iv p2, iv p3, iv p4, iv (own_k p0), iv (own_cc p1), iv 1, .val (.long (((own_k p0)).toInt64 * ((own_cc p1)).toInt64)), .second, .val (.double (FP.l2d (((own_k p0)).toInt64 * ((own_cc p1)).toInt64))), .second, .val (.double (FP.dneg (FP.i2d (own_cc p1)))), .second, .unset, .unset, .unset, .unset] [(.int p3), (.int p2), (.double (FP.i2d p3)), (.int (p2 ^^^ p3)), (.double (FP.dneg (FP.i2d (own_cc p1)))), (.double (FP.l2d (((own_k p0)).toInt64 * ((own_cc p1)).toInt64))), (.int p3), (.int p2), (.double (FP.i2d p2)), (.ref b12), (.ref b12)]) _
      refine XT.ixor X12.here hx rfl (hb hby at_77) rfl ?_
      refine XS.i2dS X12.here hx rfl (hb hby at_78) rfl rfl ?_
      refine st13 _ ?_
      refine XS.astore X13.here hx rfl (hb hby at_82) rfl rfl (l' := #[iv p0, iv p1, iv p2, iv p3, iv p4, iv (own_k p0), iv (own_cc p1), iv 1, .val (.long (((own_k p0)).toInt64 * ((own_cc p1)).toInt64)), .second, .val (.double (FP.l2d (((own_k p0)).toInt64 * ((own_cc p1)).toInt64))), .second, .val (.double (FP.dneg (FP.i2d (own_cc p1)))), .second, rv b12, .unset, .unset, .unset]) rfl ?_
      refine XS.aload X13.here hx rfl (hb hby at_84) rfl rfl ?_
      refine st15 _ ?_
      refine XS.astore X15.here hx rfl (hb hby at_89) rfl rfl (l' := #[iv p0, iv p1, iv p2, iv p3, iv p4, iv (own_k p0), iv (own_cc p1), iv 1, .val (.long (((own_k p0)).toInt64 * ((own_cc p1)).toInt64)), .second, .val (.double (FP.l2d (((own_k p0)).toInt64 * ((own_cc p1)).toInt64))), .second, .val (.double (FP.dneg (FP.i2d (own_cc p1)))), .second, rv b12, rv aE, .unset, .unset]) rfl ?_
      refine XS.iload X15.here hx rfl (hb hby at_91) rfl ?_
      show oS p e below T15 (mkF m 93 #[iv p0, iv p1, iv p2, iv p3, iv p4, iv (own_k p0), iv (own_cc p1), iv 1, .val (.long (((own_k p0)).toInt64 * ((own_cc p1)).toInt64)), .second, .val (.double (FP.l2d (((own_k p0)).toInt64 * ((own_cc p1)).toInt64))), .second, .val (.double (FP.dneg (FP.i2d (own_cc p1)))), .second, rv b12, rv aE, .unset, .unset] [(.int (own_cc p1))]) _
      refine XS.ifNo X15.here hx rfl (hb hby at_93) rfl (XT.i0_ne_f hc) ?_
      refine XS.aload X15.here hx rfl (hb hby at_96) rfl rfl ?_
      refine st18 _ ?_
      refine XS.ifNo X18.here hx rfl (hb hby at_101) rfl (XT.i0_ne_f (by decide)) ?_
      refine XT.iconstV X18.here hx rfl (1 : Int32) (hb hby at_104) (by decide) ?_
      refine XS.goto X18.here hx rfl (pc0 := 105) (pc' := 109) rfl (hb hby at_105) (by decide) (by decide) ?_
      exact kz)
    obtain ⟨fs, hr, hrun, hended, hW, hsame⟩ := X18.leave (v := some (.int 1)) (fun h => by rw [Bd.returns] at h; cases h)
    refine ⟨_, _, pre0 _ (S20 _ ?_), hrun, hended, _, _, rfl, ?_, ⟨_, rfl⟩, hW, hsame.mono (by decide) (by decide)⟩
    · exact retN X18 hx (t := .boolean) Bd.returns (by simp) (hb hby at_109) hr
    · show Qlaw Z p0 p1 p2 p3 p4 aE h0 n0 _ T18.heap _
      rw [e18]
      exact ⟨rfl, N18⟩
theorem pd__D : parseMethodDescriptor "()D" = some ⟨[], some .double⟩ := by decide +kernel
set_option maxRecDepth 65536 in
set_option maxHeartbeats 40000000 in
theorem rm0n (l : Launch) (Z : State) (av0 : Array Value) (hw : ∀ d ∈ tables_1, d.before av0 Z = true) (ws : List Jvm.Cond) (p0 : Int32) (p1 : Int32) (p2 : Int32) (p3 : Int32) (p4 : Int32) (aE : Addr) (h0 : Heap) (n0 : Nat) (Z0 : n0 ≤ h0.size) (hSE : Sta Z h0 "java/util/OptionalDouble" "EMPTY" "Ljava/util/OptionalDouble;" (.ref aE)) (hEE : Exa Z h0 aE "java/util/OptionalDouble") (hFE : Fld Z h0 aE "java/util/OptionalDouble" "isPresent" "Z" (.int (0 : Int32))) (hc : ¬ (own_cc p1) = 0) :
    MetFree l x (head1 (Jvm.Cond.code x code maxLocals ret :: ws) room_1) (fun aU U => aU = #[(.int p0), (.int p1), (.int p2), (.int p3), (.int p4)] ∧ Z.Warmed39 U.vm ∧ U.heap = h0) (fun _ _ _ _ _ => True) (fun _ U oU U' => ∃ vU LU, oU = .returned vU ∧ Qlaw Z p0 p1 p2 p3 p4 aE h0 n0 vU U'.heap LU ∧ FrameEnd U oU U' LU room_1.cells room_1.slots) := by
  refine MetFree.of_bodySF (plainFor_of_name pn_SummaryRevenueCostRatioPinLaw) hisR ?_
  intro p e s m args below meth c s₁ Bd hml0 hP hK
  obtain ⟨rfl, hZ, hh⟩ := hP
  have hml : c.maxLocals = 18 := hml0
  obtain ⟨hx, hby, hown, hnm, X0, e0⟩ := own_start Bd hml0 hh
  have N0 := Fr.nil n0
  have pre0 : ∀ tz, oS p e below s₁ (mkF m 0 #[iv p0, iv p1, iv p2, iv p3, iv p4, .unset, .unset, .unset, .unset, .unset, .unset, .unset, .unset, .unset, .unset, .unset, .unset, .unset] []) tz → Steps p.tables e below (s₁.setTop (entryFrame m #[(.int p0), (.int p1), (.int p2), (.int p3), (.int p4)] maxLocals)) tz := fun tz kz => castTop (by first | (simp [entryFrame, mkF, argsToLocals, Value.category, maxLocals]; done) | rfl) kz
  have S1 : ∀ tz, oS p e below s₁ (mkF m 17 #[iv p0, iv p1, iv p2, iv p3, iv p4, iv (own_k p0), iv (own_cc p1), .unset, .unset, .unset, .unset, .unset, .unset, .unset, .unset, .unset, .unset, .unset] [(.int (p4 &&& (1 : Int32)))]) tz → oS p e below s₁ (mkF m 0 #[iv p0, iv p1, iv p2, iv p3, iv p4, .unset, .unset, .unset, .unset, .unset, .unset, .unset, .unset, .unset, .unset, .unset, .unset, .unset] []) tz := fun tz kz => id (by
    show oS p e below s₁ (mkF m 0 #[iv p0, iv p1, iv p2, iv p3, iv p4, .unset, .unset, .unset, .unset, .unset, .unset, .unset, .unset, .unset, .unset, .unset, .unset, .unset] []) _
    refine XS.iloadN X0.here hx rfl (hb hby at_0) rfl ?_
    refine X0.ldcI hx hown (mvT hZ (hw _ (own_w 0 rfl))) rfl (hb hby at_1) ?_
    refine XS.irem X0.here hx rfl (hb hby at_3) rfl (by decide) ?_
    show oS p e below s₁ (mkF m 4 #[iv p0, iv p1, iv p2, iv p3, iv p4, .unset, .unset, .unset, .unset, .unset, .unset, .unset, .unset, .unset, .unset, .unset, .unset, .unset] [(.int (p0 - (p0 / (1048576 : Int32)) * (1048576 : Int32)))]) _
    skip
    show oS p e below s₁ (mkF m 4 #[iv p0, iv p1, iv p2, iv p3, iv p4, .unset, .unset, .unset, .unset, .unset, .unset, .unset, .unset, .unset, .unset, .unset, .unset, .unset] [(.int (own_k p0))]) _
    refine XS.istore X0.here hx rfl (hb hby at_4) rfl (l' := #[iv p0, iv p1, iv p2, iv p3, iv p4, iv (own_k p0), .unset, .unset, .unset, .unset, .unset, .unset, .unset, .unset, .unset, .unset, .unset, .unset]) rfl ?_
    refine XS.iloadN X0.here hx rfl (hb hby at_6) rfl ?_
    refine XT.sipushV X0.here hx rfl (2048 : Int32) (hb hby at_7) (by decide) ?_
    refine XS.irem X0.here hx rfl (hb hby at_10) rfl (by decide) ?_
    show oS p e below s₁ (mkF m 11 #[iv p0, iv p1, iv p2, iv p3, iv p4, iv (own_k p0), .unset, .unset, .unset, .unset, .unset, .unset, .unset, .unset, .unset, .unset, .unset, .unset] [(.int (p1 - (p1 / (2048 : Int32)) * (2048 : Int32)))]) _
    show oS p e below s₁ (mkF m 11 #[iv p0, iv p1, iv p2, iv p3, iv p4, iv (own_k p0), .unset, .unset, .unset, .unset, .unset, .unset, .unset, .unset, .unset, .unset, .unset, .unset] [(.int (p1 - (p1 / (2048 : Int32)) * (2048 : Int32)))]) _
    skip
    show oS p e below s₁ (mkF m 11 #[iv p0, iv p1, iv p2, iv p3, iv p4, iv (own_k p0), .unset, .unset, .unset, .unset, .unset, .unset, .unset, .unset, .unset, .unset, .unset, .unset] [(.int (own_cc p1))]) _
    refine XS.istore X0.here hx rfl (hb hby at_11) rfl (l' := #[iv p0, iv p1, iv p2, iv p3, iv p4, iv (own_k p0), iv (own_cc p1), .unset, .unset, .unset, .unset, .unset, .unset, .unset, .unset, .unset, .unset, .unset]) rfl ?_
    refine XS.iload X0.here hx rfl (hb hby at_13) rfl ?_
    refine XT.iconstV X0.here hx rfl (1 : Int32) (hb hby at_15) (by decide) ?_
    refine XS.iand X0.here hx rfl (hb hby at_16) rfl ?_
    exact kz)
  by_cases hc17_2 : (p4 &&& (1 : Int32)) = (0 : Int32)
  · obtain ⟨T3, h3, X3, e3, E3, A3, D3, -, st3⟩ := newO X0 hx hZ hown (hw _ (own_w 1 rfl)) (hw _ (own_w 2 rfl)) (hw _ (own_w 3 rfl)) e0 (g := (mkF m 58 #[iv p0, iv p1, iv p2, iv p3, iv p4, iv (own_k p0), iv (own_cc p1), iv 0, .val (.long (((own_k p0)).toInt64 * ((own_cc p1)).toInt64)), .second, .val (.double (FP.l2d (((own_k p0)).toInt64 * ((own_cc p1)).toInt64))), .second, .val (.double (FP.i2d (own_cc p1))), .second, .unset, .unset, .unset, .unset] [])) rfl (hb hby at_58) (by decide) (by decide)
    obtain ⟨b3, g3⟩ : ∃ z, z = h0.size := ⟨_, rfl⟩
    rw [← g3] at A3 D3 st3
    have ne_aE_b3 : aE ≠ b3 := Nat.ne_of_lt (Nat.lt_of_lt_of_le hEE.lt (Nat.le_of_eq g3.symm))
    have ge_b3 : n0 ≤ b3 := Nat.le_trans Z0 (Nat.le_of_eq g3.symm)
    have sz_b3 : h0.size ≤ b3 := Nat.le_of_eq g3.symm
    have Z3 : n0 ≤ h3.size := Nat.le_trans Z0 E3.1
    have K3 : Keep h0 h3 [] := (Keep.refl h0 []).ext E3
    have F3_until : Fld Z h3 b3 "com/example/graftwork/graftwork/simulate/Summary" "until" "D" (defaultValue .double) := D3 (Or.inr (hw _ (own_w 16 rfl))) (ty := .double) (by decide)
    have F3_arrivals : Fld Z h3 b3 "com/example/graftwork/graftwork/simulate/Summary" "arrivals" "I" (.int 0) := D3 (Or.inr (hw _ (own_w 18 rfl))) (ty := .int) (by decide)
    have F3_accepted : Fld Z h3 b3 "com/example/graftwork/graftwork/simulate/Summary" "accepted" "I" (.int 0) := D3 (Or.inr (hw _ (own_w 20 rfl))) (ty := .int) (by decide)
    have F3_revenue : Fld Z h3 b3 "com/example/graftwork/graftwork/simulate/Summary" "revenue" "D" (defaultValue .double) := D3 (Or.inr (hw _ (own_w 22 rfl))) (ty := .double) (by decide)
    have F3_cost : Fld Z h3 b3 "com/example/graftwork/graftwork/simulate/Summary" "cost" "D" (defaultValue .double) := D3 (Or.inr (hw _ (own_w 24 rfl))) (ty := .double) (by decide)
    have F3_inService : Fld Z h3 b3 "com/example/graftwork/graftwork/simulate/Summary" "inService" "I" (.int 0) := D3 (Or.inr (hw _ (own_w 26 rfl))) (ty := .int) (by decide)
    have F3_residualCpu : Fld Z h3 b3 "com/example/graftwork/graftwork/simulate/Summary" "residualCpu" "D" (defaultValue .double) := D3 (Or.inr (hw _ (own_w 28 rfl))) (ty := .double) (by decide)
    have F3_residualBandwidth : Fld Z h3 b3 "com/example/graftwork/graftwork/simulate/Summary" "residualBandwidth" "D" (defaultValue .double) := D3 (Or.inr (hw _ (own_w 30 rfl))) (ty := .double) (by decide)
    obtain ⟨_, T4, Lc4, X4, hQ4, st4⟩ := own_special (W := 1) (y := mN6) X3 hx hZ rfl hown (hw _ (own_w 4 rfl)) (hw _ (own_w 5 rfl)) (hw _ (own_w 6 rfl)) (hw _ (own_w 3 rfl)) (by decide) (rmSI l Z av0 hw [] b3 (FP.i2d p2) p2 p3 (FP.l2d (((own_k p0)).toInt64 * ((own_cc p1)).toInt64)) (FP.i2d (own_cc p1)) (p2 ^^^ p3) (FP.i2d p3) (FP.i2d (p2 ^^^ p3)) h3 n0 Z3 A3 ge_b3 F3_until F3_arrivals F3_accepted F3_revenue F3_cost F3_inService F3_residualCpu F3_residualBandwidth) (by decide) (by decide) (g := (mkF m 79 #[iv p0, iv p1, iv p2, iv p3, iv p4, iv (own_k p0), iv (own_cc p1), iv 0, .val (.long (((own_k p0)).toInt64 * ((own_cc p1)).toInt64)), .second, .val (.double (FP.l2d (((own_k p0)).toInt64 * ((own_cc p1)).toInt64))), .second, .val (.double (FP.i2d (own_cc p1))), .second, .unset, .unset, .unset, .unset] [(.double (FP.i2d (p2 ^^^ p3))), (.double (FP.i2d p3)), (.int (p2 ^^^ p3)), (.double (FP.i2d (own_cc p1))), (.double (FP.l2d (((own_k p0)).toInt64 * ((own_cc p1)).toInt64))), (.int p3), (.int p2), (.double (FP.i2d p2)), (.ref b3), (.ref b3)])) rfl (by rw [hml]; rfl) (a := b3) (argsL := [(.double (FP.i2d p2)), (.int p2), (.int p3), (.double (FP.l2d (((own_k p0)).toInt64 * ((own_cc p1)).toInt64))), (.double (FP.i2d (own_cc p1))), (.int (p2 ^^^ p3)), (.double (FP.i2d p3)), (.double (FP.i2d (p2 ^^^ p3)))]) (rest := [(.ref b3)]) (lenOf pd__DIIDDIDD_V rfl) rfl (hb hby at_79) rfl e3 (by decide : 1 + 0 ≤ _) (by decide : 8 + 0 ≤ _)
    obtain ⟨rfl, N4q, K4, Frevenue4, Fcost4⟩ := hQ4
    have N4 := Fr.app N0 N4q
    have e4 : T4.heap = T4.heap := rfl
    have Zk4 : n0 ≤ T4.heap.size := Nat.le_trans Z3 K4.1
    have Kk4 : Keep h0 T4.heap [] := K3.trans K4 (allS (Or.inr sz_b3) all0)
    have f6 := (A3.keep K4)
    obtain ⟨_, T5, Lc5, X5, hQ5, st5⟩ := own_virtual (W := 0) (y := mN7) (z := mN7) X4 hx hZ hown (hw _ (own_w 31 rfl)) (hw _ (own_w 32 rfl)) (notFace_of_selects (args := #[]) (mvT hZ (hw _ (own_w 34 rfl)))) (hw _ (own_w 34 rfl)) (hw _ (own_w 33 rfl)) (hw _ (own_w 35 rfl)) (hw _ (own_w 3 rfl)) (by decide) (rmRatP l Z av0 hw [] b3 (FP.i2d (own_cc p1)) (FP.l2d (((own_k p0)).toInt64 * ((own_cc p1)).toInt64)) T4.heap n0 Zk4 Fcost4 Frevenue4 (own_n0 (Own.own_cmpn (Jvm.FP.Core.i2d_int _) Own.own_zint (own_cnz hc))) (Jvm.Free.Fl.val64_no.mpr (Own.own_nn (own_quP p0 hc)))) (by decide) (by decide) f6 (g := (mkF m 86 #[iv p0, iv p1, iv p2, iv p3, iv p4, iv (own_k p0), iv (own_cc p1), iv 0, .val (.long (((own_k p0)).toInt64 * ((own_cc p1)).toInt64)), .second, .val (.double (FP.l2d (((own_k p0)).toInt64 * ((own_cc p1)).toInt64))), .second, .val (.double (FP.i2d (own_cc p1))), .second, rv b3, .unset, .unset, .unset] [(.ref b3)])) rfl (by rw [hml]; rfl) (argsL := []) (rest := []) (lenOf pd__Ljava_util_OptionalDouble_ rfl) rfl (hb hby at_86) rfl e4 (by decide : 1 + 1 ≤ _) (by decide : 8 + 2 ≤ _)
    obtain ⟨b5, rfl, N5q, gb5, K5, E5, I5, V5⟩ := hQ5
    have N5 := Fr.app N4 N5q
    have e5 : T5.heap = T5.heap := rfl
    have f7 := ((hEE.ext E3).keep K4)
    have ne_aE_b5 : aE ≠ b5 := Nat.ne_of_lt (Nat.lt_of_lt_of_le f7.lt gb5)
    have ne_b3_b5 : b3 ≠ b5 := Nat.ne_of_lt (Nat.lt_of_lt_of_le f6.lt gb5)
    have ge_b5 : n0 ≤ b5 := Nat.le_trans Zk4 gb5
    have sz_b5 : h0.size ≤ b5 := Nat.le_trans Kk4.1 gb5
    have Zk5 : n0 ≤ T5.heap.size := Nat.le_trans Zk4 K5.1
    have Kk5 : Keep h0 T5.heap [] := Kk4.trans K5 all0
    obtain ⟨_, T8, Lc8, X8, hQ8, st8⟩ := own_virtual (W := 0) (y := mN3) (z := mN3) X5 hx hZ hown (hw _ (own_w 51 rfl)) (hw _ (own_w 52 rfl)) (notFace_of_selects (args := #[]) (mvT hZ (hw _ (own_w 54 rfl)))) (hw _ (own_w 54 rfl)) (hw _ (own_w 53 rfl)) (hw _ (own_w 55 rfl)) (hw _ (own_w 38 rfl)) (by decide) (rmIs1 l Z av0 hw [] b5 T5.heap n0 Zk5 I5) (by decide) (by decide) E5 (g := (mkF m 129 #[iv p0, iv p1, iv p2, iv p3, iv p4, iv (own_k p0), iv (own_cc p1), iv 0, .val (.long (((own_k p0)).toInt64 * ((own_cc p1)).toInt64)), .second, .val (.double (FP.l2d (((own_k p0)).toInt64 * ((own_cc p1)).toInt64))), .second, .val (.double (FP.i2d (own_cc p1))), .second, rv b3, rv b5, .val (.double (FP.i2d (own_k p0))), .second] [(.ref b5)])) rfl (by rw [hml]; rfl) (argsL := []) (rest := []) (lenOf pd__Z rfl) rfl (hb hby at_129) rfl e5 (by decide : 2 + 0 ≤ _) (by decide : 10 + 0 ≤ _)
    obtain ⟨rfl, N8q, hh8⟩ := hQ8
    have N8 := Fr.app N5 N8q
    have e8 : T8.heap = T5.heap := hh8
    obtain ⟨_, T9, Lc9, X9, hQ9, st9⟩ := own_virtual (W := 0) (y := mN4) (z := mN4) X8 hx hZ hown (hw _ (own_w 56 rfl)) (hw _ (own_w 57 rfl)) (notFace_of_selects (args := #[]) (mvT hZ (hw _ (own_w 59 rfl)))) (hw _ (own_w 59 rfl)) (hw _ (own_w 58 rfl)) (hw _ (own_w 60 rfl)) (hw _ (own_w 38 rfl)) (by decide) (rmGet l Z av0 hw [] b5 (FP.ddiv (FP.l2d (((own_k p0)).toInt64 * ((own_cc p1)).toInt64)) (FP.i2d (own_cc p1))) T5.heap n0 Zk5 I5 V5) (by decide) (by decide) E5 (g := (mkF m 137 #[iv p0, iv p1, iv p2, iv p3, iv p4, iv (own_k p0), iv (own_cc p1), iv 0, .val (.long (((own_k p0)).toInt64 * ((own_cc p1)).toInt64)), .second, .val (.double (FP.l2d (((own_k p0)).toInt64 * ((own_cc p1)).toInt64))), .second, .val (.double (FP.i2d (own_cc p1))), .second, rv b3, rv b5, .val (.double (FP.i2d (own_k p0))), .second] [(.ref b5)])) rfl (by rw [hml]; rfl) (argsL := []) (rest := []) (lenOf pd__D rfl) rfl (hb hby at_137) rfl e8 (by decide : 2 + 0 ≤ _) (by decide : 10 + 0 ≤ _)
    obtain ⟨rfl, N9q, hh9⟩ := hQ9
    have N9 := Fr.app N8 N9q
    have e9 : T9.heap = T5.heap := hh9
    have S10 : ∀ tz, oS p e below T9 (mkF m 151 #[iv p0, iv p1, iv p2, iv p3, iv p4, iv (own_k p0), iv (own_cc p1), iv 0, .val (.long (((own_k p0)).toInt64 * ((own_cc p1)).toInt64)), .second, .val (.double (FP.l2d (((own_k p0)).toInt64 * ((own_cc p1)).toInt64))), .second, .val (.double (FP.i2d (own_cc p1))), .second, rv b3, rv b5, .val (.double (FP.i2d (own_k p0))), .second] [(.int 1)]) tz → oS p e below s₁ (mkF m 0 #[iv p0, iv p1, iv p2, iv p3, iv p4, .unset, .unset, .unset, .unset, .unset, .unset, .unset, .unset, .unset, .unset, .unset, .unset, .unset] []) tz := fun tz kz => S1 tz (by
      show oS p e below s₁ (mkF m 17 #[iv p0, iv p1, iv p2, iv p3, iv p4, iv (own_k p0), iv (own_cc p1), .unset, .unset, .unset, .unset, .unset, .unset, .unset, .unset, .unset, .unset, .unset] [(.int (p4 &&& (1 : Int32)))]) _
      refine XS.ifYes X0.here hx rfl (pc0 := 17) (pc' := 24) rfl (hb hby at_17) rfl (XT.i0_eq_t hc17_2) (by decide) (by decide) ?_
      refine XT.iconstV X0.here hx rfl (0 : Int32) (hb hby at_24) (by decide) ?_
      refine XS.istore X0.here hx rfl (hb hby at_25) rfl (l' := #[iv p0, iv p1, iv p2, iv p3, iv p4, iv (own_k p0), iv (own_cc p1), iv 0, .unset, .unset, .unset, .unset, .unset, .unset, .unset, .unset, .unset, .unset]) rfl ?_
      show oS p e below s₁ (mkF m 27 #[iv p0, iv p1, iv p2, iv p3, iv p4, iv (own_k p0), iv (own_cc p1), iv 0, .unset, .unset, .unset, .unset, .unset, .unset, .unset, .unset, .unset, .unset] []) _
      refine XS.iload X0.here hx rfl (hb hby at_27) rfl ?_
      refine XT.i2l X0.here hx rfl (hb hby at_29) rfl ?_
      refine XS.iload X0.here hx rfl (hb hby at_30) rfl ?_
      refine XT.i2l X0.here hx rfl (hb hby at_32) rfl ?_
      refine XT.lmul X0.here hx rfl (hb hby at_33) rfl ?_
      refine XT.lstore X0.here hx rfl (hb hby at_34) rfl (l' := #[iv p0, iv p1, iv p2, iv p3, iv p4, iv (own_k p0), iv (own_cc p1), iv 0, .val (.long (((own_k p0)).toInt64 * ((own_cc p1)).toInt64)), .second, .unset, .unset, .unset, .unset, .unset, .unset, .unset, .unset]) rfl ?_
      refine XT.lload X0.here hx rfl (hb hby at_36) rfl ?_
      refine XS.l2dS X0.here hx rfl (hb hby at_38) rfl rfl ?_
      show oS p e below s₁ (mkF m 39 #[iv p0, iv p1, iv p2, iv p3, iv p4, iv (own_k p0), iv (own_cc p1), iv 0, .val (.long (((own_k p0)).toInt64 * ((own_cc p1)).toInt64)), .second, .unset, .unset, .unset, .unset, .unset, .unset, .unset, .unset] [(.double (FP.l2d (((own_k p0)).toInt64 * ((own_cc p1)).toInt64)))]) _
      refine XS.dstore X0.here hx rfl (hb hby at_39) rfl (l' := #[iv p0, iv p1, iv p2, iv p3, iv p4, iv (own_k p0), iv (own_cc p1), iv 0, .val (.long (((own_k p0)).toInt64 * ((own_cc p1)).toInt64)), .second, .val (.double (FP.l2d (((own_k p0)).toInt64 * ((own_cc p1)).toInt64))), .second, .unset, .unset, .unset, .unset, .unset, .unset]) rfl ?_
      refine XS.iload X0.here hx rfl (hb hby at_41) rfl ?_
      refine XS.ifYes X0.here hx rfl (pc0 := 43) (pc' := 53) rfl (hb hby at_43) rfl (XT.i0_eq_t (by decide)) (by decide) (by decide) ?_
      refine XS.iload X0.here hx rfl (hb hby at_53) rfl ?_
      refine XS.i2dS X0.here hx rfl (hb hby at_55) rfl rfl ?_
      refine XS.dstore X0.here hx rfl (hb hby at_56) rfl (l' := #[iv p0, iv p1, iv p2, iv p3, iv p4, iv (own_k p0), iv (own_cc p1), iv 0, .val (.long (((own_k p0)).toInt64 * ((own_cc p1)).toInt64)), .second, .val (.double (FP.l2d (((own_k p0)).toInt64 * ((own_cc p1)).toInt64))), .second, .val (.double (FP.i2d (own_cc p1))), .second, .unset, .unset, .unset, .unset]) rfl ?_
      refine st3 _ ?_
      refine XS.dup X3.here hx rfl (hb hby at_61) rfl rfl ?_
      show oS p e below T3 (mkF m 62 #[iv p0, iv p1, iv p2, iv p3, iv p4, iv (own_k p0), iv (own_cc p1), iv 0, .val (.long (((own_k p0)).toInt64 * ((own_cc p1)).toInt64)), .second, .val (.double (FP.l2d (((own_k p0)).toInt64 * ((own_cc p1)).toInt64))), .second, .val (.double (FP.i2d (own_cc p1))), .second, .unset, .unset, .unset, .unset] [(.ref b3), (.ref b3)]) _
      refine XS.iloadN X3.here hx rfl (hb hby at_62) rfl ?_
      refine XS.i2dS X3.here hx rfl (hb hby at_63) rfl rfl ?_
      refine XS.iloadN X3.here hx rfl (hb hby at_64) rfl ?_
      refine XS.iloadN X3.here hx rfl (hb hby at_65) rfl ?_
      refine XS.dload X3.here hx rfl (hb hby at_66) rfl ?_
      refine XS.dload X3.here hx rfl (hb hby at_68) rfl ?_
      refine XS.iloadN X3.here hx rfl (hb hby at_70) rfl ?_
      refine XS.iloadN X3.here hx rfl (hb hby at_71) rfl ?_
      show oS p e below T3 (mkF m 72 #[iv p0, iv p1, iv p2, iv p3, iv p4, iv (own_k p0), iv (own_cc p1), iv 0, .val (.long (((own_k p0)).toInt64 * ((own_cc p1)).toInt64)), .second, .val (.double (FP.l2d (((own_k p0)).toInt64 * ((own_cc p1)).toInt64))), .second, .val (.double (FP.i2d (own_cc p1))), .second, .unset, .unset, .unset, .unset] [(.int p3), (.int p2), (.double (FP.i2d (own_cc p1))), (.double (FP.l2d (((own_k p0)).toInt64 * ((own_cc p1)).toInt64))), (.int p3), (.int p2), (.double (FP.i2d p2)), (.ref b3), (.ref b3)]) _
      refine XT.ixor X3.here hx rfl (hb hby at_72) rfl ?_
      refine XS.iloadN X3.here hx rfl (hb hby at_73) rfl ?_
      refine XS.i2dS X3.here hx rfl (hb hby at_74) rfl rfl ?_
      refine XS.iloadN X3.here hx rfl (hb hby at_75) rfl ?_
      refine XS.iloadN X3.here hx rfl (hb hby at_76) rfl ?_
      refine XT.ixor X3.here hx rfl (hb hby at_77) rfl ?_
      refine XS.i2dS X3.here hx rfl (hb hby at_78) rfl rfl ?_
      refine st4 _ ?_
      show oS p e below T4 (mkF m 82 #[iv p0, iv p1, iv p2, iv p3, iv p4, iv (own_k p0), iv (own_cc p1), iv 0, .val (.long (((own_k p0)).toInt64 * ((own_cc p1)).toInt64)), .second, .val (.double (FP.l2d (((own_k p0)).toInt64 * ((own_cc p1)).toInt64))), .second, .val (.double (FP.i2d (own_cc p1))), .second, .unset, .unset, .unset, .unset] [(.ref b3)]) _
      refine XS.astore X4.here hx rfl (hb hby at_82) rfl rfl (l' := #[iv p0, iv p1, iv p2, iv p3, iv p4, iv (own_k p0), iv (own_cc p1), iv 0, .val (.long (((own_k p0)).toInt64 * ((own_cc p1)).toInt64)), .second, .val (.double (FP.l2d (((own_k p0)).toInt64 * ((own_cc p1)).toInt64))), .second, .val (.double (FP.i2d (own_cc p1))), .second, rv b3, .unset, .unset, .unset]) rfl ?_
      refine XS.aload X4.here hx rfl (hb hby at_84) rfl rfl ?_
      refine st5 _ ?_
      refine XS.astore X5.here hx rfl (hb hby at_89) rfl rfl (l' := #[iv p0, iv p1, iv p2, iv p3, iv p4, iv (own_k p0), iv (own_cc p1), iv 0, .val (.long (((own_k p0)).toInt64 * ((own_cc p1)).toInt64)), .second, .val (.double (FP.l2d (((own_k p0)).toInt64 * ((own_cc p1)).toInt64))), .second, .val (.double (FP.i2d (own_cc p1))), .second, rv b3, rv b5, .unset, .unset]) rfl ?_
      refine XS.iload X5.here hx rfl (hb hby at_91) rfl ?_
      refine XS.ifYes X5.here hx rfl (pc0 := 93) (pc' := 110) rfl (hb hby at_93) rfl (XT.i0_ne_t hc) (by decide) (by decide) ?_
      refine XS.iload X5.here hx rfl (hb hby at_110) rfl ?_
      refine XS.ifYes X5.here hx rfl (pc0 := 112) (pc' := 122) rfl (hb hby at_112) rfl (XT.i0_eq_t (by decide)) (by decide) (by decide) ?_
      show oS p e below T5 (mkF m 122 #[iv p0, iv p1, iv p2, iv p3, iv p4, iv (own_k p0), iv (own_cc p1), iv 0, .val (.long (((own_k p0)).toInt64 * ((own_cc p1)).toInt64)), .second, .val (.double (FP.l2d (((own_k p0)).toInt64 * ((own_cc p1)).toInt64))), .second, .val (.double (FP.i2d (own_cc p1))), .second, rv b3, rv b5, .unset, .unset] []) _
      refine XS.iload X5.here hx rfl (hb hby at_122) rfl ?_
      refine XS.i2dS X5.here hx rfl (hb hby at_124) rfl rfl ?_
      refine XS.dstore X5.here hx rfl (hb hby at_125) rfl (l' := #[iv p0, iv p1, iv p2, iv p3, iv p4, iv (own_k p0), iv (own_cc p1), iv 0, .val (.long (((own_k p0)).toInt64 * ((own_cc p1)).toInt64)), .second, .val (.double (FP.l2d (((own_k p0)).toInt64 * ((own_cc p1)).toInt64))), .second, .val (.double (FP.i2d (own_cc p1))), .second, rv b3, rv b5, .val (.double (FP.i2d (own_k p0))), .second]) rfl ?_
      refine XS.aload X5.here hx rfl (hb hby at_127) rfl rfl ?_
      refine st8 _ ?_
      refine XS.ifNo X8.here hx rfl (hb hby at_132) rfl (XT.i0_eq_f (by decide)) ?_
      refine XS.aload X8.here hx rfl (hb hby at_135) rfl rfl ?_
      refine st9 _ ?_
      show oS p e below T9 (mkF m 140 #[iv p0, iv p1, iv p2, iv p3, iv p4, iv (own_k p0), iv (own_cc p1), iv 0, .val (.long (((own_k p0)).toInt64 * ((own_cc p1)).toInt64)), .second, .val (.double (FP.l2d (((own_k p0)).toInt64 * ((own_cc p1)).toInt64))), .second, .val (.double (FP.i2d (own_cc p1))), .second, rv b3, rv b5, .val (.double (FP.i2d (own_k p0))), .second] [(.double (FP.ddiv (FP.l2d (((own_k p0)).toInt64 * ((own_cc p1)).toInt64)) (FP.i2d (own_cc p1))))]) _
      refine XS.dload X9.here hx rfl (hb hby at_140) rfl ?_
      refine XS.dcmpS X9.here hx rfl (hb hby at_142) rfl rfl ?_
      refine XS.ifNo X9.here hx rfl (hb hby at_143) rfl (XT.i0_ne_f (own_e0 (Own.own_cmp (own_quP p0 hc) (Jvm.FP.Core.i2d_int _) rfl))) ?_
      refine XT.iconstV X9.here hx rfl (1 : Int32) (hb hby at_146) (by decide) ?_
      refine XS.goto X9.here hx rfl (pc0 := 147) (pc' := 151) rfl (hb hby at_147) (by decide) (by decide) ?_
      exact kz)
    obtain ⟨fs, hr, hrun, hended, hW, hsame⟩ := X9.leave (v := some (.int 1)) (fun h => by rw [Bd.returns] at h; cases h)
    refine ⟨_, _, pre0 _ (S10 _ ?_), hrun, hended, _, _, rfl, ?_, ⟨_, rfl⟩, hW, hsame.mono (by decide) (by decide)⟩
    · exact retN X9 hx (t := .boolean) Bd.returns (by simp) (hb hby at_151) hr
    · show Qlaw Z p0 p1 p2 p3 p4 aE h0 n0 _ T9.heap _
      rw [e9]
      exact ⟨rfl, N9⟩
  · obtain ⟨T11, h11, X11, e11, E11, A11, D11, -, st11⟩ := newO X0 hx hZ hown (hw _ (own_w 1 rfl)) (hw _ (own_w 2 rfl)) (hw _ (own_w 3 rfl)) e0 (g := (mkF m 58 #[iv p0, iv p1, iv p2, iv p3, iv p4, iv (own_k p0), iv (own_cc p1), iv 1, .val (.long (((own_k p0)).toInt64 * ((own_cc p1)).toInt64)), .second, .val (.double (FP.l2d (((own_k p0)).toInt64 * ((own_cc p1)).toInt64))), .second, .val (.double (FP.dneg (FP.i2d (own_cc p1)))), .second, .unset, .unset, .unset, .unset] [])) rfl (hb hby at_58) (by decide) (by decide)
    obtain ⟨b11, g11⟩ : ∃ z, z = h0.size := ⟨_, rfl⟩
    rw [← g11] at A11 D11 st11
    have ne_aE_b11 : aE ≠ b11 := Nat.ne_of_lt (Nat.lt_of_lt_of_le hEE.lt (Nat.le_of_eq g11.symm))
    have ge_b11 : n0 ≤ b11 := Nat.le_trans Z0 (Nat.le_of_eq g11.symm)
    have sz_b11 : h0.size ≤ b11 := Nat.le_of_eq g11.symm
    have Z11 : n0 ≤ h11.size := Nat.le_trans Z0 E11.1
    have K11 : Keep h0 h11 [] := (Keep.refl h0 []).ext E11
    have F11_until : Fld Z h11 b11 "com/example/graftwork/graftwork/simulate/Summary" "until" "D" (defaultValue .double) := D11 (Or.inr (hw _ (own_w 16 rfl))) (ty := .double) (by decide)
    have F11_arrivals : Fld Z h11 b11 "com/example/graftwork/graftwork/simulate/Summary" "arrivals" "I" (.int 0) := D11 (Or.inr (hw _ (own_w 18 rfl))) (ty := .int) (by decide)
    have F11_accepted : Fld Z h11 b11 "com/example/graftwork/graftwork/simulate/Summary" "accepted" "I" (.int 0) := D11 (Or.inr (hw _ (own_w 20 rfl))) (ty := .int) (by decide)
    have F11_revenue : Fld Z h11 b11 "com/example/graftwork/graftwork/simulate/Summary" "revenue" "D" (defaultValue .double) := D11 (Or.inr (hw _ (own_w 22 rfl))) (ty := .double) (by decide)
    have F11_cost : Fld Z h11 b11 "com/example/graftwork/graftwork/simulate/Summary" "cost" "D" (defaultValue .double) := D11 (Or.inr (hw _ (own_w 24 rfl))) (ty := .double) (by decide)
    have F11_inService : Fld Z h11 b11 "com/example/graftwork/graftwork/simulate/Summary" "inService" "I" (.int 0) := D11 (Or.inr (hw _ (own_w 26 rfl))) (ty := .int) (by decide)
    have F11_residualCpu : Fld Z h11 b11 "com/example/graftwork/graftwork/simulate/Summary" "residualCpu" "D" (defaultValue .double) := D11 (Or.inr (hw _ (own_w 28 rfl))) (ty := .double) (by decide)
    have F11_residualBandwidth : Fld Z h11 b11 "com/example/graftwork/graftwork/simulate/Summary" "residualBandwidth" "D" (defaultValue .double) := D11 (Or.inr (hw _ (own_w 30 rfl))) (ty := .double) (by decide)
    obtain ⟨_, T12, Lc12, X12, hQ12, st12⟩ := own_special (W := 1) (y := mN6) X11 hx hZ rfl hown (hw _ (own_w 4 rfl)) (hw _ (own_w 5 rfl)) (hw _ (own_w 6 rfl)) (hw _ (own_w 3 rfl)) (by decide) (rmSI l Z av0 hw [] b11 (FP.i2d p2) p2 p3 (FP.l2d (((own_k p0)).toInt64 * ((own_cc p1)).toInt64)) (FP.dneg (FP.i2d (own_cc p1))) (p2 ^^^ p3) (FP.i2d p3) (FP.i2d (p2 ^^^ p3)) h11 n0 Z11 A11 ge_b11 F11_until F11_arrivals F11_accepted F11_revenue F11_cost F11_inService F11_residualCpu F11_residualBandwidth) (by decide) (by decide) (g := (mkF m 79 #[iv p0, iv p1, iv p2, iv p3, iv p4, iv (own_k p0), iv (own_cc p1), iv 1, .val (.long (((own_k p0)).toInt64 * ((own_cc p1)).toInt64)), .second, .val (.double (FP.l2d (((own_k p0)).toInt64 * ((own_cc p1)).toInt64))), .second, .val (.double (FP.dneg (FP.i2d (own_cc p1)))), .second, .unset, .unset, .unset, .unset] [(.double (FP.i2d (p2 ^^^ p3))), (.double (FP.i2d p3)), (.int (p2 ^^^ p3)), (.double (FP.dneg (FP.i2d (own_cc p1)))), (.double (FP.l2d (((own_k p0)).toInt64 * ((own_cc p1)).toInt64))), (.int p3), (.int p2), (.double (FP.i2d p2)), (.ref b11), (.ref b11)])) rfl (by rw [hml]; rfl) (a := b11) (argsL := [(.double (FP.i2d p2)), (.int p2), (.int p3), (.double (FP.l2d (((own_k p0)).toInt64 * ((own_cc p1)).toInt64))), (.double (FP.dneg (FP.i2d (own_cc p1)))), (.int (p2 ^^^ p3)), (.double (FP.i2d p3)), (.double (FP.i2d (p2 ^^^ p3)))]) (rest := [(.ref b11)]) (lenOf pd__DIIDDIDD_V rfl) rfl (hb hby at_79) rfl e11 (by decide : 1 + 0 ≤ _) (by decide : 8 + 0 ≤ _)
    obtain ⟨rfl, N12q, K12, Frevenue12, Fcost12⟩ := hQ12
    have N12 := Fr.app N0 N12q
    have e12 : T12.heap = T12.heap := rfl
    have Zk12 : n0 ≤ T12.heap.size := Nat.le_trans Z11 K12.1
    have Kk12 : Keep h0 T12.heap [] := K11.trans K12 (allS (Or.inr sz_b11) all0)
    have f14 := (A11.keep K12)
    obtain ⟨_, T13, Lc13, X13, hQ13, st13⟩ := own_virtual (W := 0) (y := mN7) (z := mN7) X12 hx hZ hown (hw _ (own_w 31 rfl)) (hw _ (own_w 32 rfl)) (notFace_of_selects (args := #[]) (mvT hZ (hw _ (own_w 34 rfl)))) (hw _ (own_w 34 rfl)) (hw _ (own_w 33 rfl)) (hw _ (own_w 35 rfl)) (hw _ (own_w 3 rfl)) (by decide) (rmRatP l Z av0 hw [] b11 (FP.dneg (FP.i2d (own_cc p1))) (FP.l2d (((own_k p0)).toInt64 * ((own_cc p1)).toInt64)) T12.heap n0 Zk12 Fcost12 Frevenue12 (own_n0 (Own.own_cmpn (Own.own_dneg_int (Jvm.FP.Core.i2d_int _)) Own.own_zint (own_cnzn hc))) (Jvm.Free.Fl.val64_no.mpr (Own.own_nn (own_quN p0 hc)))) (by decide) (by decide) f14 (g := (mkF m 86 #[iv p0, iv p1, iv p2, iv p3, iv p4, iv (own_k p0), iv (own_cc p1), iv 1, .val (.long (((own_k p0)).toInt64 * ((own_cc p1)).toInt64)), .second, .val (.double (FP.l2d (((own_k p0)).toInt64 * ((own_cc p1)).toInt64))), .second, .val (.double (FP.dneg (FP.i2d (own_cc p1)))), .second, rv b11, .unset, .unset, .unset] [(.ref b11)])) rfl (by rw [hml]; rfl) (argsL := []) (rest := []) (lenOf pd__Ljava_util_OptionalDouble_ rfl) rfl (hb hby at_86) rfl e12 (by decide : 1 + 1 ≤ _) (by decide : 8 + 2 ≤ _)
    obtain ⟨b13, rfl, N13q, gb13, K13, E13, I13, V13⟩ := hQ13
    have N13 := Fr.app N12 N13q
    have e13 : T13.heap = T13.heap := rfl
    have f15 := ((hEE.ext E11).keep K12)
    have ne_aE_b13 : aE ≠ b13 := Nat.ne_of_lt (Nat.lt_of_lt_of_le f15.lt gb13)
    have ne_b11_b13 : b11 ≠ b13 := Nat.ne_of_lt (Nat.lt_of_lt_of_le f14.lt gb13)
    have ge_b13 : n0 ≤ b13 := Nat.le_trans Zk12 gb13
    have sz_b13 : h0.size ≤ b13 := Nat.le_trans Kk12.1 gb13
    have Zk13 : n0 ≤ T13.heap.size := Nat.le_trans Zk12 K13.1
    have Kk13 : Keep h0 T13.heap [] := Kk12.trans K13 all0
    obtain ⟨_, T16, Lc16, X16, hQ16, st16⟩ := own_virtual (W := 0) (y := mN3) (z := mN3) X13 hx hZ hown (hw _ (own_w 51 rfl)) (hw _ (own_w 52 rfl)) (notFace_of_selects (args := #[]) (mvT hZ (hw _ (own_w 54 rfl)))) (hw _ (own_w 54 rfl)) (hw _ (own_w 53 rfl)) (hw _ (own_w 55 rfl)) (hw _ (own_w 38 rfl)) (by decide) (rmIs1 l Z av0 hw [] b13 T13.heap n0 Zk13 I13) (by decide) (by decide) E13 (g := (mkF m 129 #[iv p0, iv p1, iv p2, iv p3, iv p4, iv (own_k p0), iv (own_cc p1), iv 1, .val (.long (((own_k p0)).toInt64 * ((own_cc p1)).toInt64)), .second, .val (.double (FP.l2d (((own_k p0)).toInt64 * ((own_cc p1)).toInt64))), .second, .val (.double (FP.dneg (FP.i2d (own_cc p1)))), .second, rv b11, rv b13, .val (.double (FP.i2d (-(own_k p0)))), .second] [(.ref b13)])) rfl (by rw [hml]; rfl) (argsL := []) (rest := []) (lenOf pd__Z rfl) rfl (hb hby at_129) rfl e13 (by decide : 2 + 0 ≤ _) (by decide : 10 + 0 ≤ _)
    obtain ⟨rfl, N16q, hh16⟩ := hQ16
    have N16 := Fr.app N13 N16q
    have e16 : T16.heap = T13.heap := hh16
    obtain ⟨_, T17, Lc17, X17, hQ17, st17⟩ := own_virtual (W := 0) (y := mN4) (z := mN4) X16 hx hZ hown (hw _ (own_w 56 rfl)) (hw _ (own_w 57 rfl)) (notFace_of_selects (args := #[]) (mvT hZ (hw _ (own_w 59 rfl)))) (hw _ (own_w 59 rfl)) (hw _ (own_w 58 rfl)) (hw _ (own_w 60 rfl)) (hw _ (own_w 38 rfl)) (by decide) (rmGet l Z av0 hw [] b13 (FP.ddiv (FP.l2d (((own_k p0)).toInt64 * ((own_cc p1)).toInt64)) (FP.dneg (FP.i2d (own_cc p1)))) T13.heap n0 Zk13 I13 V13) (by decide) (by decide) E13 (g := (mkF m 137 #[iv p0, iv p1, iv p2, iv p3, iv p4, iv (own_k p0), iv (own_cc p1), iv 1, .val (.long (((own_k p0)).toInt64 * ((own_cc p1)).toInt64)), .second, .val (.double (FP.l2d (((own_k p0)).toInt64 * ((own_cc p1)).toInt64))), .second, .val (.double (FP.dneg (FP.i2d (own_cc p1)))), .second, rv b11, rv b13, .val (.double (FP.i2d (-(own_k p0)))), .second] [(.ref b13)])) rfl (by rw [hml]; rfl) (argsL := []) (rest := []) (lenOf pd__D rfl) rfl (hb hby at_137) rfl e16 (by decide : 2 + 0 ≤ _) (by decide : 10 + 0 ≤ _)
    obtain ⟨rfl, N17q, hh17⟩ := hQ17
    have N17 := Fr.app N16 N17q
    have e17 : T17.heap = T13.heap := hh17
    have S18 : ∀ tz, oS p e below T17 (mkF m 151 #[iv p0, iv p1, iv p2, iv p3, iv p4, iv (own_k p0), iv (own_cc p1), iv 1, .val (.long (((own_k p0)).toInt64 * ((own_cc p1)).toInt64)), .second, .val (.double (FP.l2d (((own_k p0)).toInt64 * ((own_cc p1)).toInt64))), .second, .val (.double (FP.dneg (FP.i2d (own_cc p1)))), .second, rv b11, rv b13, .val (.double (FP.i2d (-(own_k p0)))), .second] [(.int 1)]) tz → oS p e below s₁ (mkF m 0 #[iv p0, iv p1, iv p2, iv p3, iv p4, .unset, .unset, .unset, .unset, .unset, .unset, .unset, .unset, .unset, .unset, .unset, .unset, .unset] []) tz := fun tz kz => S1 tz (by
      show oS p e below s₁ (mkF m 17 #[iv p0, iv p1, iv p2, iv p3, iv p4, iv (own_k p0), iv (own_cc p1), .unset, .unset, .unset, .unset, .unset, .unset, .unset, .unset, .unset, .unset, .unset] [(.int (p4 &&& (1 : Int32)))]) _
      refine XS.ifNo X0.here hx rfl (hb hby at_17) rfl (XT.i0_eq_f hc17_2) ?_
      refine XT.iconstV X0.here hx rfl (1 : Int32) (hb hby at_20) (by decide) ?_
      refine XS.goto X0.here hx rfl (pc0 := 21) (pc' := 25) rfl (hb hby at_21) (by decide) (by decide) ?_
      show oS p e below s₁ (mkF m 25 #[iv p0, iv p1, iv p2, iv p3, iv p4, iv (own_k p0), iv (own_cc p1), .unset, .unset, .unset, .unset, .unset, .unset, .unset, .unset, .unset, .unset, .unset] [(.int 1)]) _
      refine XS.istore X0.here hx rfl (hb hby at_25) rfl (l' := #[iv p0, iv p1, iv p2, iv p3, iv p4, iv (own_k p0), iv (own_cc p1), iv 1, .unset, .unset, .unset, .unset, .unset, .unset, .unset, .unset, .unset, .unset]) rfl ?_
      refine XS.iload X0.here hx rfl (hb hby at_27) rfl ?_
      refine XT.i2l X0.here hx rfl (hb hby at_29) rfl ?_
      refine XS.iload X0.here hx rfl (hb hby at_30) rfl ?_
      refine XT.i2l X0.here hx rfl (hb hby at_32) rfl ?_
      refine XT.lmul X0.here hx rfl (hb hby at_33) rfl ?_
      refine XT.lstore X0.here hx rfl (hb hby at_34) rfl (l' := #[iv p0, iv p1, iv p2, iv p3, iv p4, iv (own_k p0), iv (own_cc p1), iv 1, .val (.long (((own_k p0)).toInt64 * ((own_cc p1)).toInt64)), .second, .unset, .unset, .unset, .unset, .unset, .unset, .unset, .unset]) rfl ?_
      refine XT.lload X0.here hx rfl (hb hby at_36) rfl ?_
      show oS p e below s₁ (mkF m 38 #[iv p0, iv p1, iv p2, iv p3, iv p4, iv (own_k p0), iv (own_cc p1), iv 1, .val (.long (((own_k p0)).toInt64 * ((own_cc p1)).toInt64)), .second, .unset, .unset, .unset, .unset, .unset, .unset, .unset, .unset] [(.long (((own_k p0)).toInt64 * ((own_cc p1)).toInt64))]) _
      refine XS.l2dS X0.here hx rfl (hb hby at_38) rfl rfl ?_
      refine XS.dstore X0.here hx rfl (hb hby at_39) rfl (l' := #[iv p0, iv p1, iv p2, iv p3, iv p4, iv (own_k p0), iv (own_cc p1), iv 1, .val (.long (((own_k p0)).toInt64 * ((own_cc p1)).toInt64)), .second, .val (.double (FP.l2d (((own_k p0)).toInt64 * ((own_cc p1)).toInt64))), .second, .unset, .unset, .unset, .unset, .unset, .unset]) rfl ?_
      refine XS.iload X0.here hx rfl (hb hby at_41) rfl ?_
      refine XS.ifNo X0.here hx rfl (hb hby at_43) rfl (XT.i0_eq_f (by decide)) ?_
      refine XS.iload X0.here hx rfl (hb hby at_46) rfl ?_
      refine XS.i2dS X0.here hx rfl (hb hby at_48) rfl rfl ?_
      refine XS.dnegS X0.here hx rfl (hb hby at_49) rfl rfl ?_
      refine XS.goto X0.here hx rfl (pc0 := 50) (pc' := 56) rfl (hb hby at_50) (by decide) (by decide) ?_
      show oS p e below s₁ (mkF m 56 #[iv p0, iv p1, iv p2, iv p3, iv p4, iv (own_k p0), iv (own_cc p1), iv 1, .val (.long (((own_k p0)).toInt64 * ((own_cc p1)).toInt64)), .second, .val (.double (FP.l2d (((own_k p0)).toInt64 * ((own_cc p1)).toInt64))), .second, .unset, .unset, .unset, .unset, .unset, .unset] [(.double (FP.dneg (FP.i2d (own_cc p1))))]) _
      refine XS.dstore X0.here hx rfl (hb hby at_56) rfl (l' := #[iv p0, iv p1, iv p2, iv p3, iv p4, iv (own_k p0), iv (own_cc p1), iv 1, .val (.long (((own_k p0)).toInt64 * ((own_cc p1)).toInt64)), .second, .val (.double (FP.l2d (((own_k p0)).toInt64 * ((own_cc p1)).toInt64))), .second, .val (.double (FP.dneg (FP.i2d (own_cc p1)))), .second, .unset, .unset, .unset, .unset]) rfl ?_
      refine st11 _ ?_
      refine XS.dup X11.here hx rfl (hb hby at_61) rfl rfl ?_
      refine XS.iloadN X11.here hx rfl (hb hby at_62) rfl ?_
      refine XS.i2dS X11.here hx rfl (hb hby at_63) rfl rfl ?_
      refine XS.iloadN X11.here hx rfl (hb hby at_64) rfl ?_
      refine XS.iloadN X11.here hx rfl (hb hby at_65) rfl ?_
      refine XS.dload X11.here hx rfl (hb hby at_66) rfl ?_
      show oS p e below T11 (mkF m 68 #[iv p0, iv p1, iv p2, iv p3, iv p4, iv (own_k p0), iv (own_cc p1), iv 1, .val (.long (((own_k p0)).toInt64 * ((own_cc p1)).toInt64)), .second, .val (.double (FP.l2d (((own_k p0)).toInt64 * ((own_cc p1)).toInt64))), .second, .val (.double (FP.dneg (FP.i2d (own_cc p1)))), .second, .unset, .unset, .unset, .unset] [(.double (FP.l2d (((own_k p0)).toInt64 * ((own_cc p1)).toInt64))), (.int p3), (.int p2), (.double (FP.i2d p2)), (.ref b11), (.ref b11)]) _
      refine XS.dload X11.here hx rfl (hb hby at_68) rfl ?_
      refine XS.iloadN X11.here hx rfl (hb hby at_70) rfl ?_
      refine XS.iloadN X11.here hx rfl (hb hby at_71) rfl ?_
      refine XT.ixor X11.here hx rfl (hb hby at_72) rfl ?_
      refine XS.iloadN X11.here hx rfl (hb hby at_73) rfl ?_
      refine XS.i2dS X11.here hx rfl (hb hby at_74) rfl rfl ?_
      refine XS.iloadN X11.here hx rfl (hb hby at_75) rfl ?_
      refine XS.iloadN X11.here hx rfl (hb hby at_76) rfl ?_
      show oS p e below T11 (mkF m 77 #[iv p0, iv p1, iv p2, iv p3, iv p4, iv (own_k p0), iv (own_cc p1), iv 1, .val (.long (((own_k p0)).toInt64 * ((own_cc p1)).toInt64)), .second, .val (.double (FP.l2d (((own_k p0)).toInt64 * ((own_cc p1)).toInt64))), .second, .val (.double (FP.dneg (FP.i2d (own_cc p1)))), .second, .unset, .unset, .unset, .unset] [(.int p3), (.int p2), (.double (FP.i2d p3)), (.int (p2 ^^^ p3)), (.double (FP.dneg (FP.i2d (own_cc p1)))), (.double (FP.l2d (((own_k p0)).toInt64 * ((own_cc p1)).toInt64))), (.int p3), (.int p2), (.double (FP.i2d p2)), (.ref b11), (.ref b11)]) _
      refine XT.ixor X11.here hx rfl (hb hby at_77) rfl ?_
      refine XS.i2dS X11.here hx rfl (hb hby at_78) rfl rfl ?_
      refine st12 _ ?_
      refine XS.astore X12.here hx rfl (hb hby at_82) rfl rfl (l' := #[iv p0, iv p1, iv p2, iv p3, iv p4, iv (own_k p0), iv (own_cc p1), iv 1, .val (.long (((own_k p0)).toInt64 * ((own_cc p1)).toInt64)), .second, .val (.double (FP.l2d (((own_k p0)).toInt64 * ((own_cc p1)).toInt64))), .second, .val (.double (FP.dneg (FP.i2d (own_cc p1)))), .second, rv b11, .unset, .unset, .unset]) rfl ?_
      refine XS.aload X12.here hx rfl (hb hby at_84) rfl rfl ?_
      refine st13 _ ?_
      refine XS.astore X13.here hx rfl (hb hby at_89) rfl rfl (l' := #[iv p0, iv p1, iv p2, iv p3, iv p4, iv (own_k p0), iv (own_cc p1), iv 1, .val (.long (((own_k p0)).toInt64 * ((own_cc p1)).toInt64)), .second, .val (.double (FP.l2d (((own_k p0)).toInt64 * ((own_cc p1)).toInt64))), .second, .val (.double (FP.dneg (FP.i2d (own_cc p1)))), .second, rv b11, rv b13, .unset, .unset]) rfl ?_
      refine XS.iload X13.here hx rfl (hb hby at_91) rfl ?_
      show oS p e below T13 (mkF m 93 #[iv p0, iv p1, iv p2, iv p3, iv p4, iv (own_k p0), iv (own_cc p1), iv 1, .val (.long (((own_k p0)).toInt64 * ((own_cc p1)).toInt64)), .second, .val (.double (FP.l2d (((own_k p0)).toInt64 * ((own_cc p1)).toInt64))), .second, .val (.double (FP.dneg (FP.i2d (own_cc p1)))), .second, rv b11, rv b13, .unset, .unset] [(.int (own_cc p1))]) _
      refine XS.ifYes X13.here hx rfl (pc0 := 93) (pc' := 110) rfl (hb hby at_93) rfl (XT.i0_ne_t hc) (by decide) (by decide) ?_
      refine XS.iload X13.here hx rfl (hb hby at_110) rfl ?_
      refine XS.ifNo X13.here hx rfl (hb hby at_112) rfl (XT.i0_eq_f (by decide)) ?_
      refine XS.iload X13.here hx rfl (hb hby at_115) rfl ?_
      refine XS.ineg X13.here hx rfl (hb hby at_117) rfl ?_
      refine XS.i2dS X13.here hx rfl (hb hby at_118) rfl rfl ?_
      refine XS.goto X13.here hx rfl (pc0 := 119) (pc' := 125) rfl (hb hby at_119) (by decide) (by decide) ?_
      refine XS.dstore X13.here hx rfl (hb hby at_125) rfl (l' := #[iv p0, iv p1, iv p2, iv p3, iv p4, iv (own_k p0), iv (own_cc p1), iv 1, .val (.long (((own_k p0)).toInt64 * ((own_cc p1)).toInt64)), .second, .val (.double (FP.l2d (((own_k p0)).toInt64 * ((own_cc p1)).toInt64))), .second, .val (.double (FP.dneg (FP.i2d (own_cc p1)))), .second, rv b11, rv b13, .val (.double (FP.i2d (-(own_k p0)))), .second]) rfl ?_
      show oS p e below T13 (mkF m 127 #[iv p0, iv p1, iv p2, iv p3, iv p4, iv (own_k p0), iv (own_cc p1), iv 1, .val (.long (((own_k p0)).toInt64 * ((own_cc p1)).toInt64)), .second, .val (.double (FP.l2d (((own_k p0)).toInt64 * ((own_cc p1)).toInt64))), .second, .val (.double (FP.dneg (FP.i2d (own_cc p1)))), .second, rv b11, rv b13, .val (.double (FP.i2d (-(own_k p0)))), .second] []) _
      refine XS.aload X13.here hx rfl (hb hby at_127) rfl rfl ?_
      refine st16 _ ?_
      refine XS.ifNo X16.here hx rfl (hb hby at_132) rfl (XT.i0_eq_f (by decide)) ?_
      refine XS.aload X16.here hx rfl (hb hby at_135) rfl rfl ?_
      refine st17 _ ?_
      refine XS.dload X17.here hx rfl (hb hby at_140) rfl ?_
      refine XS.dcmpS X17.here hx rfl (hb hby at_142) rfl rfl ?_
      refine XS.ifNo X17.here hx rfl (hb hby at_143) rfl (XT.i0_ne_f (own_e0 (Own.own_cmp (own_quN p0 hc) (own_negk p0) rfl))) ?_
      show oS p e below T17 (mkF m 146 #[iv p0, iv p1, iv p2, iv p3, iv p4, iv (own_k p0), iv (own_cc p1), iv 1, .val (.long (((own_k p0)).toInt64 * ((own_cc p1)).toInt64)), .second, .val (.double (FP.l2d (((own_k p0)).toInt64 * ((own_cc p1)).toInt64))), .second, .val (.double (FP.dneg (FP.i2d (own_cc p1)))), .second, rv b11, rv b13, .val (.double (FP.i2d (-(own_k p0)))), .second] []) _
      refine XT.iconstV X17.here hx rfl (1 : Int32) (hb hby at_146) (by decide) ?_
      refine XS.goto X17.here hx rfl (pc0 := 147) (pc' := 151) rfl (hb hby at_147) (by decide) (by decide) ?_
      exact kz)
    obtain ⟨fs, hr, hrun, hended, hW, hsame⟩ := X17.leave (v := some (.int 1)) (fun h => by rw [Bd.returns] at h; cases h)
    refine ⟨_, _, pre0 _ (S18 _ ?_), hrun, hended, _, _, rfl, ?_, ⟨_, rfl⟩, hW, hsame.mono (by decide) (by decide)⟩
    · exact retN X17 hx (t := .boolean) Bd.returns (by simp) (hb hby at_151) hr
    · show Qlaw Z p0 p1 p2 p3 p4 aE h0 n0 _ T17.heap _
      rw [e17]
      exact ⟨rfl, N17⟩
theorem rm0 (l : Launch) (Z : State) (av0 : Array Value) (hw : ∀ d ∈ tables_1, d.before av0 Z = true) (ws : List Jvm.Cond) (p0 p1 p2 p3 p4 : Int32) (aE : Addr) (h0 : Heap) (n0 : Nat) (Z0 : n0 ≤ h0.size) (hSE : Sta Z h0 "java/util/OptionalDouble" "EMPTY" "Ljava/util/OptionalDouble;" (.ref aE)) (hEE : Exa Z h0 aE "java/util/OptionalDouble") (hFE : Fld Z h0 aE "java/util/OptionalDouble" "isPresent" "Z" (.int (0 : Int32))) :
    MetFree l x (head1 (Jvm.Cond.code x code maxLocals ret :: ws) room_1) (fun aU U => aU = #[(.int p0), (.int p1), (.int p2), (.int p3), (.int p4)] ∧ Z.Warmed39 U.vm ∧ U.heap = h0) (fun _ _ _ _ _ => True) (fun _ U oU U' => ∃ vU LU, oU = .returned vU ∧ Qlaw Z p0 p1 p2 p3 p4 aE h0 n0 vU U'.heap LU ∧ FrameEnd U oU U' LU room_1.cells room_1.slots) := by
  by_cases hc : own_cc p1 = 0
  · exact rm0z l Z av0 hw ws p0 p1 p2 p3 p4 aE h0 n0 Z0 hSE hEE hFE hc
  · exact rm0n l Z av0 hw ws p0 p1 p2 p3 p4 aE h0 n0 Z0 hSE hEE hFE hc
set_option maxRecDepth 65536 in
set_option maxHeartbeats 40000000 in
theorem comes_1 {Post : Tables → Env → Array Value → State → Outcome → State → Prop} (hpost : ∀ tb e args s v u, (limb_1_1.after args s (.returned v) u = true ∧ limb_1_2.after args s (.returned v) u = true ∧ True) → FrameEnd s (.returned v) u (Jvm.fieldLocs frame_1_writes args s ++ Jvm.arrayLocs frame_1_arrays args s ++ Jvm.staticLocs frame_1_statics s) 16 128 → Post tb e args s (.returned v) u) :
    ArmFor flags0 classFile x code maxLocals ret World_1 tables_1 room_1 Calls_1 rest_1 Pre_1 Post := by
  intro l hfl _ _ p e ha hc hk s m args below hf hA hF happ hP
  obtain ⟨hcalls, hrest, hpre⟩ := hP
  obtain ⟨-, -, -, hnamed, -, -, -, hat⟩ := (Spec.applies_iff hf).mp happ
  obtain ⟨hg, hn⟩ := and_e (Cond.before_iff.mp (show (Jvm.Cond.and given_1 narrow_1).before args s = true from hpre))
  obtain ⟨g0, r0⟩ := and_e hg
  obtain ⟨g1, r1⟩ := and_e r0
  obtain ⟨g2, r2⟩ := and_e r1
  obtain ⟨g3, r3⟩ := and_e r2
  obtain ⟨g4, r4⟩ := and_e r3
  obtain ⟨w0, w1, w2, w3, w4, rfl⟩ : ∃ w0 w1 w2 w3 w4 : Value, args = #[w0, w1, w2, w3, w4] := by
    have hs : args.size = 5 := by simpa [Cond.value, given_1] using g0
    obtain ⟨L⟩ := args
    match L, hs with
    | [w0, w1, w2, w3, w4], _ => exact ⟨w0, w1, w2, w3, w4, rfl⟩
  have hw := fun d (hd : d ∈ tables_1) => atoms_spec (ws := Jvm.Cond.code x code maxLocals ret :: tables_1) hat d (List.mem_cons_of_mem _ hd)
  have hfit : Fit s := fun {y c} hc i hi => by
    obtain ⟨ha, rfl⟩ := Array.getElem?_eq_some_iff.mp hc
    have q := List.all_eq_true.mp ((Array.all_eq_true_iff_forall_mem.mp hF) _ (Array.getElem_mem ha)) i (List.mem_range.mpr hi)
    simpa [Array.getElem?_eq_getElem hi] using q
  obtain ⟨i0, ei0⟩ := is_v g1
  obtain rfl : w0 = (.int i0) := Option.some.inj ei0
  obtain ⟨i1, ei1⟩ := is_v g2
  obtain rfl : w1 = (.int i1) := Option.some.inj ei1
  obtain ⟨i2, ei2⟩ := is_v g3
  obtain rfl : w2 = (.int i2) := Option.some.inj ei2
  obtain ⟨i3, ei3⟩ := is_v g4
  obtain rfl : w3 = (.int i3) := Option.some.inj ei3
  obtain ⟨i4, ei4⟩ := is_v r4
  obtain rfl : w4 = (.int i4) := Option.some.inj ei4
  have hr0 := Cond.before_iff.mp (show rest_1_c.before _ s = true from hrest)
  obtain ⟨u0, hr1⟩ := and_e hr0
  obtain ⟨u1, hr2⟩ := and_e hr1
  obtain ⟨u2, hr3⟩ := and_e hr2
  obtain ⟨u3, hr4⟩ := and_e hr3
  obtain ⟨aE, evE⟩ := exa_v u2
  have hEE := Exa.start evE u2
  have hSE := Sta.start evE (Or.inl (Cond.before_iff.mpr u1))
  have hFE := Fld.start ((fld_at evE).symm.trans (Cond.eq_int (Cond.before_iff.mpr u3) rfl))
  obtain ⟨n, o, h1, h2, h3, _, L, rfl, ⟨rfl, N⟩, hq⟩ := rm0 l s _ hw tables_1 i0 i1 i2 i3 i4 aE s.heap s.heap.size (Nat.le_refl _) hSE hEE hFE p e ha hc hk s m _ below hf ((Spec.applies_iff_loose hf).mp happ).1 ⟨rfl, State.Warmed39.refl s, rfl⟩ trivial
  refine ⟨n, _, h1, h2, h3, hpost _ _ _ _ _ _ ⟨Cond.after_iff.mpr rfl, Cond.after_iff.mpr (eq_i res_at (Term.int_eval (1)) rfl), trivial⟩ ⟨hq.1, hq.2.1, (hq.2.2.sift fun y hy => Or.inr (N y hy)).mono (by decide) (by decide)⟩⟩
theorem main_1_1 : Claimed_1_1 := comes_1 fun _ _ _ _ _ _ h hF => ⟨h.1, hF⟩
theorem main_1_2 : Claimed_1_2 := comes_1 fun _ _ _ _ _ _ h hF => ⟨h.2.1, hF⟩
end Jvm.Pilot.@@N@@
namespace Jvm.Pilot.@@N@@
open Jvm Jvm.ClassFile Sem Op Lib Jvm.Free Jvm.Stand Jvm.Pilot.@@N@@.Jvm.D
/-! MADE BY PROGRAM (witnessworld.py) out of the Statement's table words and the real class files: 11 classes; the members and pool entries that the words name. The judged class is class 1, her method 1. -/
namespace start1
open Jvm.ClassFile
def u (s : String) : CpInfo := .utf8 (stringToUtf16 s)
/-- a pool by its gaps: so many unusable entries, then the entry; so many at the end -/
def gap : Nat → List CpInfo → List CpInfo
  | 0, r => r
  | n + 1, r => .unusable :: gap n r
def poolList (es : List (Nat × CpInfo)) (last : Nat) : List CpInfo := es.foldr (fun e r => gap e.1 (e.2 :: r)) (gap last [])
def pool (es : List (Nat × CpInfo)) (last : Nat) : Array CpInfo := ⟨poolList es last⟩
def fileOf (pool : Array CpInfo) (this : Nat) (attrs : Array Attribute := #[]) (ms : Array MethodInfo := #[]) (fl : Nat := 33) (sup : Nat := 0) (ifs : Array Nat := #[]) (fds : Array FieldInfo := #[]) : ClassFile where
  minorVersion := 0
  majorVersion := 65
  constantPool := pool
  accessFlags := fl
  thisClass := this
  superClass := sup
  interfaces := ifs
  fields := fds
  methods := ms
  attributes := attrs
def plain (name : String) (sup : Option ClassId) : Class where
  name := name
  kind := .ordinary
  loader := none
  accessFlags := 33
  super := sup
  interfaces := #[]
  cf := none
  fields := #[]
  methods := #[]
  instanceTypes := #[]
  staticTypes := #[]
  resolved := #[]
  callSites := []
  init := .initialized
  statics := none
  mirror := none

def pool0 : Array CpInfo := pool [(5, u "<init>"), (0, u "()V"), (1, .class_ 10), (1, u "java/lang/Object")] 113

def k0c0 : Code := { maxStack := 0, maxLocals := 1, code := object_method_1_code, exceptionTable := #[], attributes := #[] }
def k0m0 : Method := { name := "<init>", desc := "()V", sig := { parameters := [], returnType := none }, accessFlags := 1, code := some k0c0 }
/-- java/lang/Object -/
def k0 : Class := { plain "java/lang/Object" none with
  accessFlags := 33
  interfaces := #[]
  cf := some (fileOf pool0 8 #[] #[{ accessFlags := 1, nameIndex := 5, descriptorIndex := 6, attributes := #[] }] 33 0 #[] #[])
  fields := #[]
  methods := #[k0m0]
  instanceTypes := #[]
  staticTypes := #[]
  resolved := Array.replicate 124 none
  statics := none }

def pool1 : Array CpInfo := pool [(2, .class_ 4), (1, u "java/lang/Object"), (0, u "<init>"), (0, u "()V"), (0, .integer 1048576), (0, .class_ 9), (0, u "com/example/graftwork/graftwork/simulate/Summary"), (0, .methodref 8 11), (0, .nameAndType 5 12), (0, u "(DIIDDIDD)V"), (0, .methodref 8 14), (0, .nameAndType 15 16), (0, u "revenueCostRatio"), (0, u "()Ljava/util/OptionalDouble;"), (0, .methodref 18 19), (0, .class_ 20), (0, .nameAndType 21 22), (0, u "java/util/OptionalDouble"), (0, u "isPresent"), (0, u "()Z"), (0, .methodref 18 24), (0, .nameAndType 25 26), (0, u "getAsDouble"), (0, u "()D"), (0, .class_ 28), (0, u "com/example/graftwork/graftwork/simulate/SummaryRevenueCostRatioPinLaw"), (2, u "law"), (0, u "(IIIII)Z")] 3

def k1m0 : Method := { name := "<init>", desc := "()V", sig := { parameters := [], returnType := none }, accessFlags := 2, code := none }
def k1c1 : Code := { maxStack := 15, maxLocals := 18, code := code, exceptionTable := #[], attributes := #[] }
def k1m1 : Method := { name := "law", desc := "(IIIII)Z", sig := { parameters := [.int, .int, .int, .int, .int], returnType := some .boolean }, accessFlags := 9, code := some k1c1 }
/-- com/example/graftwork/graftwork/simulate/SummaryRevenueCostRatioPinLaw -/
def k1 : Class := { plain "com/example/graftwork/graftwork/simulate/SummaryRevenueCostRatioPinLaw" (some 0) with
  accessFlags := 49
  interfaces := #[]
  cf := some (fileOf pool1 27 #[] #[{ accessFlags := 2, nameIndex := 5, descriptorIndex := 6, attributes := #[] }, { accessFlags := 9, nameIndex := 31, descriptorIndex := 32, attributes := #[] }] 49 2 #[] #[])
  fields := #[]
  methods := #[k1m0, k1m1]
  instanceTypes := #[]
  staticTypes := #[]
  resolved := Array.replicate 36 none
  statics := none }

def pool2 : Array CpInfo := pool [(1, .methodref 2 3), (0, .class_ 4), (0, .nameAndType 5 6), (0, u "java/lang/Object"), (0, u "<init>"), (0, u "()V"), (0, .class_ 8), (0, u "java/lang/Record")] 13

def k2c0 : Code := { maxStack := 1, maxLocals := 1, code := jdk_30_method_1_code, exceptionTable := #[], attributes := #[] }
def k2m0 : Method := { name := "<init>", desc := "()V", sig := { parameters := [], returnType := none }, accessFlags := 4, code := some k2c0 }
/-- java/lang/Record -/
def k2 : Class := { plain "java/lang/Record" (some 0) with
  accessFlags := 1057
  interfaces := #[]
  cf := some (fileOf pool2 7 #[] #[{ accessFlags := 4, nameIndex := 5, descriptorIndex := 6, attributes := #[] }] 1057 2 #[] #[])
  fields := #[]
  methods := #[k2m0]
  instanceTypes := #[]
  staticTypes := #[]
  resolved := Array.replicate 22 none
  statics := none }

def pool3 : Array CpInfo := pool [(1, .methodref 2 3), (0, .class_ 4), (0, .nameAndType 5 6), (0, u "java/lang/Record"), (0, u "<init>"), (0, u "()V"), (0, .fieldref 8 9), (0, .class_ 10), (0, .nameAndType 11 12), (0, u "com/example/graftwork/graftwork/simulate/Summary"), (0, u "until"), (0, u "D"), (0, .fieldref 8 14), (0, .nameAndType 15 16), (0, u "arrivals"), (0, u "I"), (0, .fieldref 8 18), (0, .nameAndType 19 16), (0, u "accepted"), (0, .fieldref 8 21), (0, .nameAndType 22 12), (0, u "revenue"), (0, .fieldref 8 24), (0, .nameAndType 25 12), (0, u "cost"), (0, .fieldref 8 27), (0, .nameAndType 28 16), (0, u "inService"), (0, .fieldref 8 30), (0, .nameAndType 31 12), (0, u "residualCpu"), (0, .fieldref 8 33), (0, .nameAndType 34 12), (0, u "residualBandwidth"), (0, .methodref 36 37), (0, .class_ 38), (0, .nameAndType 39 40), (0, u "java/util/OptionalDouble"), (0, u "empty"), (0, u "()Ljava/util/OptionalDouble;"), (0, .methodref 36 42), (0, .nameAndType 43 44), (0, u "of"), (0, u "(D)Ljava/util/OptionalDouble;"), (12, u "(DIIDDIDD)V"), (9, u "revenueCostRatio")] 29

def k3c0 : Code := { maxStack := 3, maxLocals := 14, code := prog_53_method_1_code, exceptionTable := #[], attributes := #[] }
def k3m0 : Method := { name := "<init>", desc := "(DIIDDIDD)V", sig := { parameters := [.double, .int, .int, .double, .double, .int, .double, .double], returnType := none }, accessFlags := 1, code := some k3c0 }
def k3c1 : Code := { maxStack := 4, maxLocals := 1, code := prog_53_method_5_code, exceptionTable := #[], attributes := #[] }
def k3m1 : Method := { name := "revenueCostRatio", desc := "()Ljava/util/OptionalDouble;", sig := { parameters := [], returnType := some (.object "java/util/OptionalDouble") }, accessFlags := 1, code := some k3c1 }
/-- com/example/graftwork/graftwork/simulate/Summary -/
def k3 : Class := { plain "com/example/graftwork/graftwork/simulate/Summary" (some 2) with
  accessFlags := 49
  interfaces := #[]
  cf := some (fileOf pool3 8 #[] #[{ accessFlags := 1, nameIndex := 5, descriptorIndex := 57, attributes := #[] }, { accessFlags := 1, nameIndex := 67, descriptorIndex := 40, attributes := #[] }] 49 2 #[] #[{ accessFlags := 18, nameIndex := 11, descriptorIndex := 12, attributes := #[] }, { accessFlags := 18, nameIndex := 15, descriptorIndex := 16, attributes := #[] }, { accessFlags := 18, nameIndex := 19, descriptorIndex := 16, attributes := #[] }, { accessFlags := 18, nameIndex := 22, descriptorIndex := 12, attributes := #[] }, { accessFlags := 18, nameIndex := 25, descriptorIndex := 12, attributes := #[] }, { accessFlags := 18, nameIndex := 28, descriptorIndex := 16, attributes := #[] }, { accessFlags := 18, nameIndex := 31, descriptorIndex := 12, attributes := #[] }, { accessFlags := 18, nameIndex := 34, descriptorIndex := 12, attributes := #[] }])
  fields := #[{ name := "until", type := .double, accessFlags := 18, slot := 0, constantValue := 0 }, { name := "arrivals", type := .int, accessFlags := 18, slot := 1, constantValue := 0 }, { name := "accepted", type := .int, accessFlags := 18, slot := 2, constantValue := 0 }, { name := "revenue", type := .double, accessFlags := 18, slot := 3, constantValue := 0 }, { name := "cost", type := .double, accessFlags := 18, slot := 4, constantValue := 0 }, { name := "inService", type := .int, accessFlags := 18, slot := 5, constantValue := 0 }, { name := "residualCpu", type := .double, accessFlags := 18, slot := 6, constantValue := 0 }, { name := "residualBandwidth", type := .double, accessFlags := 18, slot := 7, constantValue := 0 }]
  methods := #[k3m0, k3m1]
  instanceTypes := #[.double, .int, .int, .double, .double, .int, .double, .double]
  staticTypes := #[]
  resolved := Array.replicate 97 none
  statics := none }

def pool4 : Array CpInfo := pool [(1, .methodref 2 3), (0, .class_ 4), (0, .nameAndType 5 6), (0, u "java/lang/Object"), (0, u "<init>"), (0, u "()V"), (0, .fieldref 8 9), (0, .class_ 10), (0, .nameAndType 11 12), (0, u "java/util/OptionalDouble"), (0, u "isPresent"), (0, u "Z"), (4, .fieldref 8 18), (0, .nameAndType 19 20), (0, u "value"), (0, u "D"), (0, .fieldref 8 22), (0, .nameAndType 23 24), (0, u "EMPTY"), (0, u "Ljava/util/OptionalDouble;"), (0, .methodref 8 26), (0, .nameAndType 5 27), (0, u "(D)V"), (21, u "of"), (3, u "empty"), (5, u "getAsDouble"), (0, u "()D"), (41, u "()Ljava/util/OptionalDouble;"), (0, u "(D)Ljava/util/OptionalDouble;"), (1, u "()Z")] 38

def k4m0 : Method := { name := "<init>", desc := "()V", sig := { parameters := [], returnType := none }, accessFlags := 2, code := none }
def k4c1 : Code := { maxStack := 1, maxLocals := 0, code := jdk_2648_method_2_code, exceptionTable := #[], attributes := #[] }
def k4m1 : Method := { name := "empty", desc := "()Ljava/util/OptionalDouble;", sig := { parameters := [], returnType := some (.object "java/util/OptionalDouble") }, accessFlags := 9, code := some k4c1 }
def k4c2 : Code := { maxStack := 3, maxLocals := 3, code := jdk_2648_method_3_code, exceptionTable := #[], attributes := #[] }
def k4m2 : Method := { name := "<init>", desc := "(D)V", sig := { parameters := [.double], returnType := none }, accessFlags := 2, code := some k4c2 }
def k4c3 : Code := { maxStack := 4, maxLocals := 2, code := jdk_2648_method_4_code, exceptionTable := #[], attributes := #[] }
def k4m3 : Method := { name := "of", desc := "(D)Ljava/util/OptionalDouble;", sig := { parameters := [.double], returnType := some (.object "java/util/OptionalDouble") }, accessFlags := 9, code := some k4c3 }
def k4c4 : Code := { maxStack := 3, maxLocals := 1, code := jdk_2648_method_5_code, exceptionTable := #[], attributes := #[] }
def k4m4 : Method := { name := "getAsDouble", desc := "()D", sig := { parameters := [], returnType := some .double }, accessFlags := 1, code := some k4c4 }
def k4c5 : Code := { maxStack := 1, maxLocals := 1, code := jdk_2648_method_6_code, exceptionTable := #[], attributes := #[] }
def k4m5 : Method := { name := "isPresent", desc := "()Z", sig := { parameters := [], returnType := some .boolean }, accessFlags := 1, code := some k4c5 }
/-- java/util/OptionalDouble -/
def k4 : Class := { plain "java/util/OptionalDouble" (some 0) with
  accessFlags := 49
  interfaces := #[]
  cf := some (fileOf pool4 8 #[] #[{ accessFlags := 2, nameIndex := 5, descriptorIndex := 6, attributes := #[] }, { accessFlags := 9, nameIndex := 53, descriptorIndex := 102, attributes := #[] }, { accessFlags := 2, nameIndex := 5, descriptorIndex := 27, attributes := #[] }, { accessFlags := 9, nameIndex := 49, descriptorIndex := 103, attributes := #[] }, { accessFlags := 1, nameIndex := 59, descriptorIndex := 60, attributes := #[] }, { accessFlags := 1, nameIndex := 11, descriptorIndex := 105, attributes := #[] }] 49 2 #[] #[{ accessFlags := 26, nameIndex := 23, descriptorIndex := 24, attributes := #[] }, { accessFlags := 18, nameIndex := 11, descriptorIndex := 12, attributes := #[] }, { accessFlags := 18, nameIndex := 19, descriptorIndex := 20, attributes := #[] }])
  fields := #[{ name := "EMPTY", type := (.object "java/util/OptionalDouble"), accessFlags := 26, slot := 0, constantValue := 0 }, { name := "isPresent", type := .boolean, accessFlags := 18, slot := 0, constantValue := 0 }, { name := "value", type := .double, accessFlags := 18, slot := 1, constantValue := 0 }]
  methods := #[k4m0, k4m1, k4m2, k4m3, k4m4, k4m5]
  instanceTypes := #[.boolean, .double]
  staticTypes := #[(.object "java/util/OptionalDouble")]
  resolved := Array.replicate 144 none
  statics := some 0 }

def pool5 : Array CpInfo := pool [(1, u "java/lang/Cloneable"), (0, .class_ 1), (0, u "java/lang/Object"), (0, .class_ 3)] 3

/-- java/lang/Cloneable -/
def k5 : Class := { plain "java/lang/Cloneable" (some 0) with
  accessFlags := 1537
  interfaces := #[]
  cf := some (fileOf pool5 2 #[] #[] 1537 4 #[] #[])
  fields := #[]
  methods := #[]
  instanceTypes := #[]
  staticTypes := #[]
  resolved := Array.replicate 8 none
  statics := none }

def pool6 : Array CpInfo := pool [(1, u "java/io/Serializable"), (0, .class_ 1), (0, u "java/lang/Object"), (0, .class_ 3)] 3

/-- java/io/Serializable -/
def k6 : Class := { plain "java/io/Serializable" (some 0) with
  accessFlags := 1537
  interfaces := #[]
  cf := some (fileOf pool6 2 #[] #[] 1537 4 #[] #[])
  fields := #[]
  methods := #[]
  instanceTypes := #[]
  staticTypes := #[]
  resolved := Array.replicate 8 none
  statics := none }

/-- the primitive byte -/
def k7 : Class := { plain "byte" none with kind := .primitive 'B', accessFlags := 0x411 }
/-- [B -/
def k8 : Class := { plain "[B" (some 0) with kind := .array 7 .byte, interfaces := #[5, 6], accessFlags := 1041 }

/-- the primitive int -/
def k9 : Class := { plain "int" none with kind := .primitive 'I', accessFlags := 0x411 }
/-- [I -/
def k10 : Class := { plain "[I" (some 0) with kind := .array 9 .int, interfaces := #[5, 6], accessFlags := 1041 }

def heap : Heap := #[{ cls := 4, slots := #[.ref 1], vm := .statics 4 },
  { cls := 4, slots := #[.int 0, .double 0], vm := .none }]
def classes : Array Class := #[k0, k1, k2, k3, k4, k5, k6, k7, k8, k9, k10]
def interned : List (Array UInt16 × Addr) := []
def slotsUsed : Nat := 3
def theMethod : MethodId := ⟨1, 1⟩
def args0 : Array Value := #[.int 7, .int 3, .int 5, .int 6, .int 1]
def aboutOver (below : List Frame) : State where
  vm := { classes := classes, interned := interned.toArray }
  heap := heap
  slotsUsed := slotsUsed
  threads := #[{ frames := .invoking theMethod args0 :: below }]
def below0 : List Frame := [.native { method := ⟨0, 0⟩, args := #[] }]
def about1 : State := aboutOver below0
def p0 : Program := .bare "" "" ""
def e0 : Env := launch0.env 0 0 0
theorem w_frames : about1.frames = Frame.invoking theMethod args0 :: below0 := rfl
set_option maxRecDepth 65536 in
theorem w_args : argsFit about1.vm theMethod args0 = true := by decide +kernel
set_option maxRecDepth 65536 in
theorem w_heap : heapFits about1 = true := by decide +kernel
set_option maxRecDepth 65536 in
theorem w_runnable : about1.curStatus? = some .runnable := by decide +kernel
set_option maxRecDepth 65536 in
theorem w_alone : about1.alone = true := by decide +kernel
set_option maxRecDepth 65536 in
theorem w_named : about1.methodNamed? x = some theMethod := by decide +kernel
set_option maxRecDepth 65536 in
theorem w_hears : about1.hears theMethod below0 = true := by decide +kernel
set_option maxRecDepth 65536 in
theorem w_ripe : about1.ripe theMethod args0 below0 = true := by decide +kernel
theorem w_running : about1.status = .running := rfl
set_option maxRecDepth 65536 in
theorem w_room : about1.hasRoom e0.platform room_1 = true :=
  launch0.hasRoom_least _ room_1 (by decide +kernel) (by decide +kernel) (by decide +kernel) (by decide +kernel) (by decide +kernel) (by decide +kernel)
theorem allAtoms_all (ts : List Jvm.Cond) (a : Array Jvm.Value) (st : Jvm.State) : (allAtoms ts).before a st = ts.all (fun c => c.before a st) := by
  induction ts with
  | nil => rfl
  | cons c t ih =>
    show (Jvm.Cond.and c (allAtoms t)).before a st = _
    rw [Jvm.Cond.before_and, ih, List.all_cons]
def words1 : List Jvm.Cond := Jvm.Cond.code x code maxLocals ret :: tables_1
/-- a 'code' word, met by the world's own term for the bytes: nothing is compared byte by byte -/
theorem code_word {y : MethodName} {bytes : ByteArray} {mx : Nat} {rt : Option FieldType} {a : Array Value} {s : State} {m : MethodId} {meth : Method} {c : Code} (h1 : s.methodNamed? y = some m) (h2 : s.vm.method? m = some meth) (h3 : meth.code = some c) (h4 : c.code = bytes)
    (h5 : (c.maxLocals == mx && c.exceptionTable.isEmpty && decide (c.maxStack ≤ mostOperands) && decide (meth.sig.returnType = rt) && !meth.locks && decide (parseMethodDescriptor y.desc = some meth.sig)) = true) : (Jvm.Cond.code y bytes mx rt).before a s = true := by
  simp only [Bool.and_eq_true, beq_iff_eq, Bool.not_eq_true', decide_eq_true_eq] at h5
  obtain ⟨⟨⟨⟨⟨g1, g2⟩, g3⟩, g4⟩, g5⟩, g6⟩ := h5
  simp [Cond.before, Cond.holds, Cond.value, h1, h2, h3, h4, g1, g2, g3, g4, g5, g6]
def isCode : Jvm.Cond → Bool
  | .code _ _ _ _ => true
  | _ => false
theorem all_split {L : List Jvm.Cond} {P : Jvm.Cond → Bool} (h1 : L.all (fun c => isCode c || P c) = true) (h2 : ∀ c ∈ L.filter isCode, P c = true) : L.all P = true := by
  refine List.all_eq_true.mpr fun c hc => ?_
  have h := List.all_eq_true.mp h1 c hc
  rcases Bool.eq_false_or_eq_true (isCode c) with hi | hi
  · exact h2 c (List.mem_filter.mpr ⟨hc, hi⟩)
  · simpa [hi] using h
set_option maxRecDepth 65536 in
theorem w_c0 : (Jvm.Cond.code x code maxLocals ret).before args0 about1 = true := code_word (m := ⟨1, 1⟩) (meth := k1m1) (c := k1c1) (by decide +kernel) rfl rfl rfl (by decide +kernel)
set_option maxRecDepth 65536 in
theorem w_c1 : (Jvm.Cond.code ({ cls := "com/example/graftwork/graftwork/simulate/Summary", name := "<init>", desc := "(DIIDDIDD)V" } : Jvm.MethodName) prog_53_method_1_code (14 : Nat) (Option.none : Option Jvm.ClassFile.FieldType)).before args0 about1 = true := code_word (m := ⟨3, 0⟩) (meth := k3m0) (c := k3c0) (by decide +kernel) rfl rfl rfl (by decide +kernel)
set_option maxRecDepth 65536 in
theorem w_c2 : (Jvm.Cond.code ({ cls := "java/lang/Record", name := "<init>", desc := "()V" } : Jvm.MethodName) jdk_30_method_1_code (1 : Nat) (Option.none : Option Jvm.ClassFile.FieldType)).before args0 about1 = true := code_word (m := ⟨2, 0⟩) (meth := k2m0) (c := k2c0) (by decide +kernel) rfl rfl rfl (by decide +kernel)
set_option maxRecDepth 65536 in
theorem w_c3 : (Jvm.Cond.code ({ cls := "java/lang/Object", name := "<init>", desc := "()V" } : Jvm.MethodName) object_method_1_code (1 : Nat) (Option.none : Option Jvm.ClassFile.FieldType)).before args0 about1 = true := code_word (m := ⟨0, 0⟩) (meth := k0m0) (c := k0c0) (by decide +kernel) rfl rfl rfl (by decide +kernel)
set_option maxRecDepth 65536 in
theorem w_c4 : (Jvm.Cond.code ({ cls := "com/example/graftwork/graftwork/simulate/Summary", name := "revenueCostRatio", desc := "()Ljava/util/OptionalDouble;" } : Jvm.MethodName) prog_53_method_5_code (1 : Nat) (Option.some (Jvm.ClassFile.FieldType.object "java/util/OptionalDouble"))).before args0 about1 = true := code_word (m := ⟨3, 1⟩) (meth := k3m1) (c := k3c1) (by decide +kernel) rfl rfl rfl (by decide +kernel)
set_option maxRecDepth 65536 in
theorem w_c5 : (Jvm.Cond.code ({ cls := "java/util/OptionalDouble", name := "of", desc := "(D)Ljava/util/OptionalDouble;" } : Jvm.MethodName) jdk_2648_method_4_code (2 : Nat) (Option.some (Jvm.ClassFile.FieldType.object "java/util/OptionalDouble"))).before args0 about1 = true := code_word (m := ⟨4, 3⟩) (meth := k4m3) (c := k4c3) (by decide +kernel) rfl rfl rfl (by decide +kernel)
set_option maxRecDepth 65536 in
theorem w_c6 : (Jvm.Cond.code ({ cls := "java/util/OptionalDouble", name := "<init>", desc := "(D)V" } : Jvm.MethodName) jdk_2648_method_3_code (3 : Nat) (Option.none : Option Jvm.ClassFile.FieldType)).before args0 about1 = true := code_word (m := ⟨4, 2⟩) (meth := k4m2) (c := k4c2) (by decide +kernel) rfl rfl rfl (by decide +kernel)
set_option maxRecDepth 65536 in
theorem w_c7 : (Jvm.Cond.code ({ cls := "java/util/OptionalDouble", name := "isPresent", desc := "()Z" } : Jvm.MethodName) jdk_2648_method_6_code (1 : Nat) (Option.some Jvm.ClassFile.FieldType.boolean)).before args0 about1 = true := code_word (m := ⟨4, 5⟩) (meth := k4m5) (c := k4c5) (by decide +kernel) rfl rfl rfl (by decide +kernel)
set_option maxRecDepth 65536 in
theorem w_c8 : (Jvm.Cond.code ({ cls := "java/util/OptionalDouble", name := "getAsDouble", desc := "()D" } : Jvm.MethodName) jdk_2648_method_5_code (1 : Nat) (Option.some Jvm.ClassFile.FieldType.double)).before args0 about1 = true := code_word (m := ⟨4, 4⟩) (meth := k4m4) (c := k4c4) (by decide +kernel) rfl rfl rfl (by decide +kernel)
set_option maxRecDepth 65536 in
theorem w_c9 : (Jvm.Cond.code ({ cls := "java/util/OptionalDouble", name := "empty", desc := "()Ljava/util/OptionalDouble;" } : Jvm.MethodName) jdk_2648_method_2_code (0 : Nat) (Option.some (Jvm.ClassFile.FieldType.object "java/util/OptionalDouble"))).before args0 about1 = true := code_word (m := ⟨4, 1⟩) (meth := k4m1) (c := k4c1) (by decide +kernel) rfl rfl rfl (by decide +kernel)
def codes1 : List Jvm.Cond := [Jvm.Cond.code x code maxLocals ret, Jvm.Cond.code ({ cls := "com/example/graftwork/graftwork/simulate/Summary", name := "<init>", desc := "(DIIDDIDD)V" } : Jvm.MethodName) prog_53_method_1_code (14 : Nat) (Option.none : Option Jvm.ClassFile.FieldType), Jvm.Cond.code ({ cls := "java/lang/Record", name := "<init>", desc := "()V" } : Jvm.MethodName) jdk_30_method_1_code (1 : Nat) (Option.none : Option Jvm.ClassFile.FieldType), Jvm.Cond.code ({ cls := "java/lang/Object", name := "<init>", desc := "()V" } : Jvm.MethodName) object_method_1_code (1 : Nat) (Option.none : Option Jvm.ClassFile.FieldType), Jvm.Cond.code ({ cls := "com/example/graftwork/graftwork/simulate/Summary", name := "revenueCostRatio", desc := "()Ljava/util/OptionalDouble;" } : Jvm.MethodName) prog_53_method_5_code (1 : Nat) (Option.some (Jvm.ClassFile.FieldType.object "java/util/OptionalDouble")), Jvm.Cond.code ({ cls := "java/util/OptionalDouble", name := "of", desc := "(D)Ljava/util/OptionalDouble;" } : Jvm.MethodName) jdk_2648_method_4_code (2 : Nat) (Option.some (Jvm.ClassFile.FieldType.object "java/util/OptionalDouble")), Jvm.Cond.code ({ cls := "java/util/OptionalDouble", name := "<init>", desc := "(D)V" } : Jvm.MethodName) jdk_2648_method_3_code (3 : Nat) (Option.none : Option Jvm.ClassFile.FieldType), Jvm.Cond.code ({ cls := "java/util/OptionalDouble", name := "isPresent", desc := "()Z" } : Jvm.MethodName) jdk_2648_method_6_code (1 : Nat) (Option.some Jvm.ClassFile.FieldType.boolean), Jvm.Cond.code ({ cls := "java/util/OptionalDouble", name := "getAsDouble", desc := "()D" } : Jvm.MethodName) jdk_2648_method_5_code (1 : Nat) (Option.some Jvm.ClassFile.FieldType.double), Jvm.Cond.code ({ cls := "java/util/OptionalDouble", name := "empty", desc := "()Ljava/util/OptionalDouble;" } : Jvm.MethodName) jdk_2648_method_2_code (0 : Nat) (Option.some (Jvm.ClassFile.FieldType.object "java/util/OptionalDouble"))]
set_option maxRecDepth 65536 in
theorem codes_eq : words1.filter isCode = codes1 := rfl
theorem w_codes : ∀ c ∈ words1.filter isCode, c.before args0 about1 = true := by
  rw [codes_eq]
  intro c hc
  simp only [codes1, List.mem_cons, List.not_mem_nil, or_false] at hc
  rcases hc with rfl | rfl | rfl | rfl | rfl | rfl | rfl | rfl | rfl | rfl
  · exact w_c0
  · exact w_c1
  · exact w_c2
  · exact w_c3
  · exact w_c4
  · exact w_c5
  · exact w_c6
  · exact w_c7
  · exact w_c8
  · exact w_c9
set_option maxRecDepth 65536 in
theorem w_t1 : (words1.take 24).all (fun c => isCode c || c.before args0 about1) = true := by decide +kernel
set_option maxRecDepth 65536 in
theorem w_t2 : ((words1.drop 24).take 24).all (fun c => isCode c || c.before args0 about1) = true := by decide +kernel
set_option maxRecDepth 65536 in
theorem w_t3 : ((words1.drop 24).drop 24).all (fun c => isCode c || c.before args0 about1) = true := by decide +kernel
theorem w_tables : (allAtoms (Jvm.Cond.code x code maxLocals ret :: tables_1)).before args0 about1 = true := by
  rw [allAtoms_all]
  show words1.all (fun c => c.before args0 about1) = true
  refine all_split ?_ w_codes
  rw [← List.take_append_drop 24 words1, List.all_append, w_t1, ← List.take_append_drop 24 (words1.drop 24), List.all_append, w_t2, w_t3]
  rfl
set_option maxRecDepth 65536 in
theorem w_rest : rest_1_c.before args0 about1 = true := by decide +kernel
set_option maxRecDepth 65536 in
theorem w_case : (Jvm.Cond.and given_1 narrow_1).before args0 about1 = true := by decide +kernel
theorem w_applies : (headSpec (Jvm.Cond.code x code maxLocals ret :: tables_1) room_1).applies x e0.platform about1 = true :=
  (Spec.applies_iff w_frames).mpr ⟨w_running, w_runnable, w_alone, w_named, w_hears, w_ripe, w_room, w_tables⟩
theorem atStart : AtStart classFile x code maxLocals ret World_1 tables_1 room_1 Calls_1 rest_1 Pre_1 launch0 p0 e0 about1 theMethod args0 below0 :=
  ⟨lists_1, trivial, launch0.admits_env _ _ _, launch0.least_env, fairChoices_fair.cas, fairChoices_fair.clock, w_frames, w_args, w_heap, w_applies, trivial, w_rest, w_case⟩
end start1
theorem witness_1 : WitnessClaimed_1 := ⟨start1.p0, start1.e0, start1.about1, start1.theMethod, start1.args0, start1.below0, start1.atStart⟩
end Jvm.Pilot.@@N@@
